/- Part 18 of the proof: Zs Assert Size MSize. -/
import Derived.Test.YtphldfnnjoehpaaQZ13
import Derived.Test.YtphldfnnjoehpaaQZ16
import Derived.Test.YtphldfnnjoehpaaQZ01
import Derived.Test.YtphldfnnjoehpaaQZ14
set_option linter.unusedVariables false
section
set_option linter.unusedSimpArgs false
set_option maxRecDepth 100000
set_option maxHeartbeats 8000000
namespace Go.Smd
open Go.RowKit Go.Proofs
def fldsOf : GV → List (ByteArray × GV)
  | .mk _ _ _ _ keys l => insAll keys (cleans l) []
theorem plainMapS_a (g : GV) : ACalls Try.prog 59 [gvA g] (fun r => r = gvA (mkMap (fldsOf g))) := by
  obtain ⟨k, n, f, s, keys, l⟩ := g
  refine ⟨⟨_, Try.func59, by kernel_rfl, rfl⟩, fun w S vs hS ha => ?_⟩
  obtain ⟨v, _, rfl, h, ha⟩ := ha.inv
  cases ha.inv0
  obtain ⟨cs, rfl, hg⟩ := gvA_iff.1 h
  refine (plainMapS_step k n f s keys l (fun x _ => clean_c x) cs w S hg).mono ?_
  rintro e w' ⟨v, rfl, ⟨cs', rfl, hr⟩, hE⟩
  exact ⟨_, _, rfl, rfl, gvA_iff.2 ⟨cs', rfl, hr.mono fun b hb => .inr hb⟩, hE⟩
theorem mkMap_b (fs : List (ByteArray × GV)) : mkMap fs = .mk 6 0 0 ⟨#[]⟩ (fs.map (·.1)) (fs.map (·.2)) := rfl
theorem withField_b {fs : List (ByteArray × GV)} (hs : Sorted fs) (hl : fs.length ≤ 4000000000) (key : ByteArray) (g : GV) : ACalls Try.prog 48 [gvA (mkMap fs), aS key, gvA g] (fun r => r = gvA (mkMap (sIns key g fs))) := by
  refine ⟨⟨_, Try.func48, by kernel_rfl, rfl⟩, fun w S vs hS ha => ?_⟩
  obtain ⟨v, _, rfl, h, ha⟩ := ha.inv
  obtain ⟨u, _, rfl, h2, ha⟩ := ha.inv
  obtain ⟨x, _, rfl, h3, ha⟩ := ha.inv
  cases ha.inv0
  obtain ⟨cs, rfl, hg⟩ := gvA_iff.1 h
  obtain ⟨cv, rfl, hg3⟩ := gvA_iff.1 h3
  obtain ⟨rfl, hk⟩ := rep_v h2
  rw [mkMap_b] at hg
  refine (withField_c _ _ _ _ fs key g cs cv w S hg hg3 hs (by omega) (by simpa [okVb] using hk)).mono ?_
  rintro e w' ⟨v, rfl, ⟨cs', rfl, hr⟩, hE⟩
  exact ⟨_, _, rfl, rfl, gvA_iff.2 ⟨cs', rfl, hr⟩, hE⟩
theorem fieldIndex_a (k n : Int) (f : Nat) (s : ByteArray) (keys : List ByteArray) (l : List GV) (key : ByteArray) (hsort : keys.Pairwise fun a b => blt a b = true) (hl : keys.length ≤ 4000000000) : ACalls Try.prog 91 [gvX k n f s keys l, aS key] (fun r => r = .tup [(false, [.d (dI (lower key keys : Nat))]), (false, [.d (dB (decide (keys[lower key keys]? = some key)))])]) := by
  refine ⟨⟨_, Try.func91, by kernel_rfl, rfl⟩, fun w S vs hS ha => ?_⟩
  obtain ⟨v, _, rfl, h, ha⟩ := ha.inv
  obtain ⟨u, _, rfl, h2, ha⟩ := ha.inv
  cases ha.inv0
  obtain ⟨rfl, hk⟩ := rep_v h2
  rw [← gvA_x] at h
  obtain ⟨cs, rfl, hg⟩ := gvA_iff.1 h
  refine (fieldIndex_c k n f s keys l key cs w S hg hsort).mono ?_
  rintro e w' ⟨v, rfl, rfl, hE⟩
  have := lower_le key keys
  refine ⟨_, _, rfl, rfl, ⟨_, rfl, .cons ?_ (.cons ?_ .nil)⟩, hE⟩
  · exact ⟨_, rfl, RepD.v (by simp [okVb, okInt]; omega)⟩
  · exact ⟨_, rfl, RepD.v rfl⟩
theorem lower_at : ∀ {ks : List ByteArray} {i : Nat} {k : ByteArray}, (ks.Pairwise fun a b => blt a b = true) → ks[i]? = some k → lower k ks = i := fun {ks i k} hs hk => by
  obtain ⟨hi, rfl⟩ := List.getElem?_eq_some_iff.1 hk
  refine lower_of (by omega) (fun j q hj hq => ?_) fun q hq => ?_
  · obtain ⟨h1, rfl⟩ := List.getElem?_eq_some_iff.1 hq
    exact List.pairwise_iff_getElem.1 hs j i h1 hi hj
  · rw [hk] at hq; cases hq; exact blt_irrefl _
theorem oSl_ne {E : TypeId} {xs : List (List D)} (h : xs ≠ []) : oSl E xs = .sl E xs := by cases xs with
  | nil => exact absurd rfl h
  | cons x xs => rfl
@[simp ↓] theorem clo_bs {σ : St} {d : Option Tmp} {T : TypeId} {n : Nat} {xs : Array (Nat × Operand)} {ty : TypeId} {pos : String} {af : Array Edge} {g : Option (Nat × Bool)} : cloA σ ⟨d, .buildSlice T n xs, ty, pos, af, g⟩ = none := _root_.id rfl
abbrev cGV (ks : List ByteArray) (L : List GV) : Ow := .cells [.d (dI 6), .d (dI 0), .d (dF 0), .d (dS ⟨#[]⟩), .d (dStrs ks), .d (dGVs L)] 26
def zSelf (p : ByteArray × GV) : List D := [dS p.1, .sl 26 [gvD p.2], .sl 26 [gvD p.2]]
theorem field_at (fs : List (ByteArray × GV)) (hs : Sorted fs) (hl : fs.length ≤ 4000000000) (i : Nat) (hi : i < fs.length) (k : ByteArray) (a b : Int) (c : Nat) (d : ByteArray) (e : List ByteArray) (f : List GV) (hp : fs[i] = (k, .mk a b c d e f)) :
    ACalls Try.prog 86 [gvX 6 0 0 ⟨#[]⟩ (fs.map (·.1)) (fs.map (·.2)), aS k] (fun r => r = .tup [(true, [.d (dI a), .d (dI b), .d (dF c), .d (dS d), .d (dStrs e), .d (dGVs f)]), (false, [.d (dB true)])]) := by
  obtain ⟨L, hL⟩ : ∃ L : List GV, L = fs.map (·.2) := ⟨_, rfl⟩
  obtain ⟨ks, hks⟩ : ∃ ks : List ByteArray, ks = fs.map (·.1) := ⟨_, rfl⟩
  rw [← hL, ← hks]
  have hk : ks[i]? = some k := by rw [hks, List.getElem?_map, List.getElem?_eq_getElem hi, hp]; rfl
  have hs' : ks.Pairwise fun a b => blt a b = true := by rw [hks]; exact hs
  have h1 := fieldIndex_a 6 0 0 ⟨#[]⟩ ks L k hs' (by rw [hks, List.length_map]; exact hl)
  rw [lower_at hs' hk, hk, decide_eq_true rfl] at h1
  have h2 : L[i]? = some (.mk a b c d e f) := by rw [hL, List.getElem?_map, List.getElem?_eq_getElem hi, hp]; rfl
  obtain ⟨hi2, hg⟩ := List.getElem?_eq_some_iff.1 h2
  have hi3 : (i : Int) < L.length := by omega
  have hi0 : (0 : Int) ≤ (i : Int) := by omega
  refine acalls_ex [] Try.func86 (by kernel_rfl) rfl Try.ntmps86 Try.results86 (Nat.le_of_ble_eq_true (by kernel_rfl)) ?_; intro hok w0 S0
  clear hok
  (repeat' (first
                                                            | (with_reducible refine br_d (fun _ => ?_) (fun _ => ?_))
                                                            | (with_reducible refine br_i (fun _ => ?_) (fun _ => ?_))
                                                            | (with_reducible refine nd_v (h1) (by first | rfl | (simp -dsimp [hi2, hg, hi3, hi0, gvD_mk, cls_cons, cls_nil]; done)) ?_)
                                                            | (with_reducible refine nw_v (h1) rfl (by first | rfl | (simp -dsimp [hi2, hg, hi3, hi0, gvD_mk, cls_cons, cls_nil]; done)) (by first | rfl | (simp -dsimp [hi2, hg, hi3, hi0, gvD_mk, cls_cons, cls_nil]; done)) ?_)
                                                            | ((with_reducible apply nd_next); (case hx => simp -dsimp [hi2, hg, hi3, hi0, gvD_mk, cls_cons, cls_nil]; first | done | with_reducible rfl); (case hid => simp -dsimp [hi2, hg, hi3, hi0, gvD_mk, cls_cons, cls_nil]; first | done | with_reducible rfl | exact ⟨rfl, rfl, rfl⟩ | exact ⟨rfl, rfl⟩); (case' h1 => intro _ _ _); (case' h0 => intro _))
                                                            | ((with_reducible apply nd_entry); (case hx => simp -dsimp [hi2, hg, hi3, hi0, gvD_mk, cls_cons, cls_nil]; first | done | with_reducible rfl); (case hid => simp -dsimp [hi2, hg, hi3, hi0, gvD_mk, cls_cons, cls_nil]; first | done | with_reducible rfl | exact ⟨rfl, rfl, rfl⟩ | exact ⟨rfl, rfl⟩))
                                                            | ((with_reducible apply nd_range); (case hx => simp -dsimp [hi2, hg, hi3, hi0, gvD_mk, cls_cons, cls_nil]; with_reducible rfl); (case hT => simp -dsimp [hi2, hg, hi3, hi0, gvD_mk, cls_cons, cls_nil]); (case hnd => assumption); (case hz => simp -dsimp [hi2, hg, hi3, hi0, gvD_mk, cls_cons, cls_nil]))
                                                            | (with_reducible refine dn_i follows_any (by kernel_rfl) ?_)
                                                            | (with_reducible exact done_eq rfl)
                                                            | (simp -dsimp [hi2, hg, hi3, hi0, gvD_mk, cls_cons, cls_nil]))); (all_goals try with_reducible refine done_eq ?_)
theorem sorted_key {fs : List (ByteArray × GV)} (hs : Sorted fs) {q p : ByteArray × GV} (hq : q ∈ fs) (hp : p ∈ fs) (e : q.1 = p.1) : q = p := by
  obtain ⟨i, hi, rfl⟩ := List.getElem_of_mem hq
  obtain ⟨j, hj, rfl⟩ := List.getElem_of_mem hp
  have hs' := List.pairwise_iff_getElem.1 hs
  rcases Nat.lt_trichotomy i j with h | rfl | h
  · have := hs' i j (by simpa using hi) (by simpa using hj) h
    simp only [List.getElem_map, e, blt_irrefl] at this; cases this
  · rfl
  · have := hs' j i (by simpa using hj) (by simpa using hi) h
    simp only [List.getElem_map, e, blt_irrefl] at this; cases this
theorem sIns_self {fs : List (ByteArray × GV)} (hs : Sorted fs) {p : ByteArray × GV} (hp : p ∈ fs) : sIns p.1 p.2 fs = fs := by
  refine sorted_ext (sIns_sorted hs) hs fun q => ?_
  rw [sIns_mem_iff hs]
  constructor
  · rintro (rfl | ⟨h, _⟩)
    · exact hp
    · exact h
  · intro h
    by_cases e : q.1 = p.1
    · left
      exact sorted_key hs h hp e
    · exact .inr ⟨h, e⟩
theorem zip_a (g : GV) (hl : (fldsOf g).length ≤ 4000000000) : ACalls Try.prog 41 [gvA g, gvA g] (fun r => r = .c (.d (oSl 75 ((fldsOf g).map zSelf)))) := by
  have hp := plainMapS_a g
  obtain ⟨a, b, c, d, e, f⟩ := g
  obtain ⟨fs, hfs⟩ : ∃ fs, fs = fldsOf (.mk a b c d e f) := ⟨_, rfl⟩
  have hs : Sorted fs := by rw [hfs]; exact insAll_sorted _ _ _ .nil
  rw [← hfs] at hp hl ⊢
  rw [mkMap_b, gvA_x, gvA_x] at hp
  rw [gvA_x]
  have hf := field_at fs hs hl
  have hw : ∀ i (hi : i < fs.length), ACalls Try.prog 48 [gvX 6 0 0 ⟨#[]⟩ (fs.map (·.1)) (fs.map (·.2)), aS fs[i].1, gvA fs[i].2] (fun r => r = gvX 6 0 0 ⟨#[]⟩ (fs.map (·.1)) (fs.map (·.2))) := fun i hi => by
    have := withField_b hs hl fs[i].1 fs[i].2
    rw [sIns_self hs (List.getElem_mem hi), mkMap_b, gvA_x] at this
    exact this
  obtain ⟨L, hL⟩ : ∃ L : List GV, L = fs.map (·.2) := ⟨_, rfl⟩
  obtain ⟨ks, hks⟩ : ∃ ks : List ByteArray, ks = fs.map (·.1) := ⟨_, rfl⟩
  rw [← hL, ← hks] at hp hf hw
  have hkl : ks.length = fs.length := by rw [hks, List.length_map]
  have hLl : L.length = fs.length := by rw [hL, List.length_map]
  have hgk : ∀ i (h : i < ks.length) (h2 : i < fs.length), ks[i] = fs[i].1 := fun i h h2 => by subst hks; simp
  have hgL : ∀ i (h : i < L.length) (h2 : i < fs.length), L[i] = fs[i].2 := fun i h h2 => by subst hL; simp
  have b1 : ks.length ≤ 9223372036854775807 := by omega
  refine acalls_ex [(1, ([3], [(0, []), (2, []), (1, []), (3, []), (4, []), (5, [])])), (6, ([7], [(0, []), (1, []), (2, []), (3, []), (4, []), (5, []), (6, []), (7, []), (8, [])]))] Try.func41 (by kernel_rfl) rfl Try.ntmps41 Try.results41 (Nat.le_of_ble_eq_true (by kernel_rfl)) ?_; intro hok w0 S0
  clear hok
  (repeat' (first
                                                            | (with_reducible refine br_d (fun _ => ?_) (fun _ => ?_))
                                                            | (with_reducible refine br_i (fun _ => ?_) (fun _ => ?_))
                                                            | (with_reducible refine nd_v (hp) (by first | rfl | (simp -dsimp [b1]; done)) ?_)
                                                            | (with_reducible refine nw_v (hp) rfl (by first | rfl | (simp -dsimp [b1]; done)) (by first | rfl | (simp -dsimp [b1]; done)) ?_)
                                                            | ((with_reducible apply nd_next); (case hx => simp -dsimp [b1]; first | done | with_reducible rfl); (case hid => simp -dsimp [b1]; first | done | with_reducible rfl | exact ⟨rfl, rfl, rfl⟩ | exact ⟨rfl, rfl⟩); (case' h1 => intro _ _ _); (case' h0 => intro _))
                                                            | ((with_reducible apply nd_entry); (case hx => simp -dsimp [b1]; first | done | with_reducible rfl); (case hid => simp -dsimp [b1]; first | done | with_reducible rfl | exact ⟨rfl, rfl, rfl⟩ | exact ⟨rfl, rfl⟩))
                                                            | ((with_reducible apply nd_range); (case hx => simp -dsimp [b1]; with_reducible rfl); (case hT => simp -dsimp [b1]); (case hnd => assumption); (case hz => simp -dsimp [b1]))
                                                            | (with_reducible refine dn_i follows_any (by kernel_rfl) ?_)
                                                            | (with_reducible exact done_eq rfl)
                                                            | (simp -dsimp [b1]))); (all_goals try with_reducible refine done_eq ?_)
  refine ex_loop (fun i : Nat => ⟨[(2, .c (.own 2 0)), (3, .c (.own 3 0)), (5, .c (.own 5 0)), (22, .c (.d (dStrs ks))), (23, aI ks.length), (24, aI i)], [(2, cGV ks L), (3, cGV ks L), (5, cGV ks L)]⟩) (fun i => i ≤ fs.length) (fun i => fs.length - i) 0 ?_ (Nat.zero_le _) ?_
  · exact Weak.same (by simp -dsimp) (by simp -dsimp) (by first | rfl | (simp [closedSt, Av.ids, Ow.ids, Cl.ids, Go.Smd.keys]; done))
  · intro i hi K hK
    by_cases hlt : i < fs.length
    · have h1 : i < ks.length := by omega
      have h2 : i < L.length := by omega
      have h3 : (i : Int) < ks.length := by omega
      have h0 : (0 : Int) ≤ (i : Int) := by omega
      have hwr : IntKind.wrap .i64 ((i : Int) + 1) = (i : Int) + 1 := by rw [wrap_i64] <;> omega
      have e1 := hgk i h1 hlt
      have e2 := hgL i h2 hlt
      have hwi := hw i hlt
      rw [← e1, ← e2] at hwi
      (repeat' (first
                                                            | (with_reducible refine br_d (fun _ => ?_) (fun _ => ?_))
                                                            | (with_reducible refine br_i (fun _ => ?_) (fun _ => ?_))
                                                            | (with_reducible refine nd_v (hwi) (by first | rfl | (simp -dsimp [h1, h2, h3, h0, hwr]; done)) ?_)
                                                            | (with_reducible refine nw_v (hwi) rfl (by first | rfl | (simp -dsimp [h1, h2, h3, h0, hwr]; done)) (by first | rfl | (simp -dsimp [h1, h2, h3, h0, hwr]; done)) ?_)
                                                            | ((with_reducible apply nd_next); (case hx => simp -dsimp [h1, h2, h3, h0, hwr]; first | done | with_reducible rfl); (case hid => simp -dsimp [h1, h2, h3, h0, hwr]; first | done | with_reducible rfl | exact ⟨rfl, rfl, rfl⟩ | exact ⟨rfl, rfl⟩); (case' h1 => intro _ _ _); (case' h0 => intro _))
                                                            | ((with_reducible apply nd_entry); (case hx => simp -dsimp [h1, h2, h3, h0, hwr]; first | done | with_reducible rfl); (case hid => simp -dsimp [h1, h2, h3, h0, hwr]; first | done | with_reducible rfl | exact ⟨rfl, rfl, rfl⟩ | exact ⟨rfl, rfl⟩))
                                                            | ((with_reducible apply nd_range); (case hx => simp -dsimp [h1, h2, h3, h0, hwr]; with_reducible rfl); (case hT => simp -dsimp [h1, h2, h3, h0, hwr]); (case hnd => assumption); (case hz => simp -dsimp [h1, h2, h3, h0, hwr]))
                                                            | (with_reducible refine dn_i follows_any (by kernel_rfl) ?_)
                                                            | (with_reducible exact done_eq rfl)
                                                            | (simp -dsimp [h1, h2, h3, h0, hwr]))); (all_goals try with_reducible refine done_eq ?_)
      refine hK _ (i + 1) ?_ (by omega) (by omega)
      exact Weak.same (by simp -dsimp) (by simp -dsimp) (by first | rfl | (simp [closedSt, Av.ids, Ow.ids, Cl.ids, Go.Smd.keys]; done))
    · have h3 : ¬ (i : Int) < ks.length := by omega
      (repeat' (first
                                                            | (with_reducible refine br_d (fun _ => ?_) (fun _ => ?_))
                                                            | (with_reducible refine br_i (fun _ => ?_) (fun _ => ?_))
                                                            | ((with_reducible apply nd_next); (case hx => simp -dsimp [h3, b1]; first | done | with_reducible rfl); (case hid => simp -dsimp [h3, b1]; first | done | with_reducible rfl | exact ⟨rfl, rfl, rfl⟩ | exact ⟨rfl, rfl⟩); (case' h1 => intro _ _ _); (case' h0 => intro _))
                                                            | ((with_reducible apply nd_entry); (case hx => simp -dsimp [h3, b1]; first | done | with_reducible rfl); (case hid => simp -dsimp [h3, b1]; first | done | with_reducible rfl | exact ⟨rfl, rfl, rfl⟩ | exact ⟨rfl, rfl⟩))
                                                            | ((with_reducible apply nd_range); (case hx => simp -dsimp [h3, b1]; with_reducible rfl); (case hT => simp -dsimp [h3, b1]); (case hnd => assumption); (case hz => simp -dsimp [h3, b1]))
                                                            | (with_reducible refine dn_i follows_any (by kernel_rfl) ?_)
                                                            | (with_reducible exact done_eq rfl)
                                                            | (simp -dsimp [h3, b1]))); (all_goals try with_reducible refine done_eq ?_)
      refine ex_loop (fun i : Nat => if i = 0 then ⟨[(2, .c (.own 2 0)), (3, .c (.own 3 0)), (8, .c (.d (.v (.slice none 0 0)))), (39, .c (.d (dStrs ks))), (40, aI ks.length), (41, aI 0)], [(2, cGV ks L), (3, cGV ks L)]⟩
          else ⟨[(2, .c (.own 2 0)), (3, .c (.own 3 0)), (8, .c (.gs 70 i)), (39, .c (.d (dStrs ks))), (40, aI ks.length), (41, aI i)], [(2, cGV ks L), (3, cGV ks L), (70, .arr i 75 ((fs.take i).map zSelf))]⟩) (fun i => i ≤ fs.length) (fun i => fs.length - i) 0 ?_ (Nat.zero_le _) ?_
      · rw [if_pos rfl]
        exact Weak.same (by simp -dsimp) (by simp -dsimp) (by first | rfl | (simp [closedSt, Av.ids, Ow.ids, Cl.ids, Go.Smd.keys]; done))
      · intro i hi K2 hK2
        by_cases hlt : i < fs.length
        · have h1 : i < ks.length := by omega
          have h3 : (i : Int) < ks.length := by omega
          have h0 : (0 : Int) ≤ (i : Int) := by omega
          have hwr : IntKind.wrap .i64 ((i : Int) + 1) = (i : Int) + 1 := by rw [wrap_i64] <;> omega
          obtain ⟨k, a', b', c', d', e', f', hfi⟩ : ∃ k a b c d e f, fs[i] = (k, .mk a b c d e f) := by
            obtain ⟨k, v⟩ := fs[i]
            cases v; exact ⟨_, _, _, _, _, _, _, rfl⟩
          have e1 : ks[i] = k := by rw [hgk i h1 hlt, hfi]
          have hfl := hf i hlt k a' b' c' d' e' f' hfi
          have htk : (fs.take (i + 1)).map zSelf = (fs.take i).map zSelf ++ [[dS k, .sl 26 [[dI a', dI b', dF c', dS d', dStrs e', dGVs f']], .sl 26 [[dI a', dI b', dF c', dS d', dStrs e', dGVs f']]]] := by
            rw [List.take_succ_eq_append_getElem hlt, List.map_append, hfi]
            simp only [List.map_cons, List.map_nil, zSelf, gvD_mk]
          by_cases hi0 : i = 0
          · subst hi0
            simp only [List.take_zero, List.map_nil, List.nil_append] at htk
            rw [if_pos rfl]
            (repeat' (first
                                                            | (with_reducible refine br_d (fun _ => ?_) (fun _ => ?_))
                                                            | (with_reducible refine br_i (fun _ => ?_) (fun _ => ?_))
                                                            | (with_reducible refine nd_v (hfl) (by first | rfl | (simp -dsimp [h1, h3, h0, hwr, e1, toDs, w1]; done)) ?_)
                                                            | (with_reducible refine nw_v (hfl) rfl (by first | rfl | (simp -dsimp [h1, h3, h0, hwr, e1, toDs, w1]; done)) (by first | rfl | (simp -dsimp [h1, h3, h0, hwr, e1, toDs, w1]; done)) ?_)
                                                            | ((with_reducible apply nd_f (F := [55, 65])); (case hw => simp -dsimp [h1, h3, h0, hwr, e1, toDs, w1]; with_reducible rfl))
                                                            | ((with_reducible apply nd_next); (case hx => simp -dsimp [h1, h3, h0, hwr, e1, toDs, w1]; first | done | with_reducible rfl); (case hid => simp -dsimp [h1, h3, h0, hwr, e1, toDs, w1]; first | done | with_reducible rfl | exact ⟨rfl, rfl, rfl⟩ | exact ⟨rfl, rfl⟩); (case' h1 => intro _ _ _); (case' h0 => intro _))
                                                            | ((with_reducible apply nd_entry); (case hx => simp -dsimp [h1, h3, h0, hwr, e1, toDs, w1]; first | done | with_reducible rfl); (case hid => simp -dsimp [h1, h3, h0, hwr, e1, toDs, w1]; first | done | with_reducible rfl | exact ⟨rfl, rfl, rfl⟩ | exact ⟨rfl, rfl⟩))
                                                            | ((with_reducible apply nd_range); (case hx => simp -dsimp [h1, h3, h0, hwr, e1, toDs, w1]; with_reducible rfl); (case hT => simp -dsimp [h1, h3, h0, hwr, e1, toDs, w1]); (case hnd => assumption); (case hz => simp -dsimp [h1, h3, h0, hwr, e1, toDs, w1]))
                                                            | (with_reducible refine dn_i follows_any (by kernel_rfl) ?_)
                                                            | (with_reducible exact done_eq rfl)
                                                            | (simp -dsimp [h1, h3, h0, hwr, e1, toDs, w1]))); (all_goals try with_reducible refine done_eq ?_)
            refine hK2 _ 1 ?_ (by omega) (by omega)
            rw [if_neg (by decide), htk]
            exact Weak.same (by simp -dsimp) (by simp -dsimp) (by first | rfl | (simp [closedSt, Av.ids, Ow.ids, Cl.ids, Go.Smd.keys]; done))
          · rw [if_neg hi0]
            obtain ⟨R0, hR0⟩ : ∃ R0, R0 = (fs.take i).map zSelf := ⟨_, rfl⟩
            rw [← hR0] at htk ⊢
            have hzl : R0.length = i := by rw [hR0, List.length_map, List.length_take]; omega
            have hb : (i + 1) * 64 ≤ 140737488351232 := by omega
            (repeat' (first
                                                            | (with_reducible refine br_d (fun _ => ?_) (fun _ => ?_))
                                                            | (with_reducible refine br_i (fun _ => ?_) (fun _ => ?_))
                                                            | (with_reducible refine nd_v (hfl) (by first | rfl | (simp -dsimp [h1, h3, h0, hwr, e1, toDs, w1, hzl, hb]; done)) ?_)
                                                            | (with_reducible refine nw_v (hfl) rfl (by first | rfl | (simp -dsimp [h1, h3, h0, hwr, e1, toDs, w1, hzl, hb]; done)) (by first | rfl | (simp -dsimp [h1, h3, h0, hwr, e1, toDs, w1, hzl, hb]; done)) ?_)
                                                            | ((with_reducible apply nd_f (F := [55, 65])); (case hw => simp -dsimp [h1, h3, h0, hwr, e1, toDs, w1, hzl, hb]; with_reducible rfl))
                                                            | ((with_reducible apply nd_next); (case hx => simp -dsimp [h1, h3, h0, hwr, e1, toDs, w1, hzl, hb]; first | done | with_reducible rfl); (case hid => simp -dsimp [h1, h3, h0, hwr, e1, toDs, w1, hzl, hb]; first | done | with_reducible rfl | exact ⟨rfl, rfl, rfl⟩ | exact ⟨rfl, rfl⟩); (case' h1 => intro _ _ _); (case' h0 => intro _))
                                                            | ((with_reducible apply nd_entry); (case hx => simp -dsimp [h1, h3, h0, hwr, e1, toDs, w1, hzl, hb]; first | done | with_reducible rfl); (case hid => simp -dsimp [h1, h3, h0, hwr, e1, toDs, w1, hzl, hb]; first | done | with_reducible rfl | exact ⟨rfl, rfl, rfl⟩ | exact ⟨rfl, rfl⟩))
                                                            | ((with_reducible apply nd_range); (case hx => simp -dsimp [h1, h3, h0, hwr, e1, toDs, w1, hzl, hb]; with_reducible rfl); (case hT => simp -dsimp [h1, h3, h0, hwr, e1, toDs, w1, hzl, hb]); (case hnd => assumption); (case hz => simp -dsimp [h1, h3, h0, hwr, e1, toDs, w1, hzl, hb]))
                                                            | (with_reducible refine dn_i follows_any (by kernel_rfl) ?_)
                                                            | (with_reducible exact done_eq rfl)
                                                            | (simp -dsimp [h1, h3, h0, hwr, e1, toDs, w1, hzl, hb]))); (all_goals try with_reducible refine done_eq ?_)
            refine hK2 _ (i + 1) ?_ (by omega) (by omega)
            rw [if_neg (by omega), htk]
            exact Weak.same (by simp -dsimp) (by simp -dsimp) (by first | rfl | (simp [closedSt, Av.ids, Ow.ids, Cl.ids, Go.Smd.keys]; done))
        · have h3 : ¬ (i : Int) < ks.length := by omega
          have e1 : i = fs.length := by omega
          by_cases hi0 : i = 0
          · rw [if_pos hi0]
            have e2 : fs = [] := List.eq_nil_of_length_eq_zero (by omega)
            subst e2
            have e4 : ks = [] := by simpa using hks
            subst e4
            (repeat' (first
                                                            | (with_reducible refine br_d (fun _ => ?_) (fun _ => ?_))
                                                            | (with_reducible refine br_i (fun _ => ?_) (fun _ => ?_))
                                                            | ((with_reducible apply nd_next); (case hx => simp -dsimp; first | done | with_reducible rfl); (case hid => simp -dsimp; first | done | with_reducible rfl | exact ⟨rfl, rfl, rfl⟩ | exact ⟨rfl, rfl⟩); (case' h1 => intro _ _ _); (case' h0 => intro _))
                                                            | ((with_reducible apply nd_entry); (case hx => simp -dsimp; first | done | with_reducible rfl); (case hid => simp -dsimp; first | done | with_reducible rfl | exact ⟨rfl, rfl, rfl⟩ | exact ⟨rfl, rfl⟩))
                                                            | ((with_reducible apply nd_range); (case hx => simp -dsimp; with_reducible rfl); (case hT => simp -dsimp); (case hnd => assumption); (case hz => simp -dsimp))
                                                            | (with_reducible refine dn_i follows_any (by kernel_rfl) ?_)
                                                            | (with_reducible exact done_eq rfl)
                                                            | (simp -dsimp))); (all_goals try with_reducible refine done_eq ?_)
          · rw [if_neg hi0]
            have e2 : fs.take i = fs := List.take_of_length_le (by omega)
            rw [e2]
            have e3 : fs.map zSelf ≠ [] := by
              intro h
              have := congrArg List.length h
              rw [List.length_map] at this
              exact absurd this (by show ¬ fs.length = 0; omega)
            rw [oSl_ne e3]
            (repeat' (first
                                                            | (with_reducible refine br_d (fun _ => ?_) (fun _ => ?_))
                                                            | (with_reducible refine br_i (fun _ => ?_) (fun _ => ?_))
                                                            | ((with_reducible apply nd_next); (case hx => simp -dsimp [h3]; first | done | with_reducible rfl); (case hid => simp -dsimp [h3]; first | done | with_reducible rfl | exact ⟨rfl, rfl, rfl⟩ | exact ⟨rfl, rfl⟩); (case' h1 => intro _ _ _); (case' h0 => intro _))
                                                            | ((with_reducible apply nd_entry); (case hx => simp -dsimp [h3]; first | done | with_reducible rfl); (case hid => simp -dsimp [h3]; first | done | with_reducible rfl | exact ⟨rfl, rfl, rfl⟩ | exact ⟨rfl, rfl⟩))
                                                            | ((with_reducible apply nd_range); (case hx => simp -dsimp [h3]; with_reducible rfl); (case hT => simp -dsimp [h3]); (case hnd => assumption); (case hz => simp -dsimp [h3]))
                                                            | (with_reducible refine dn_i follows_any (by kernel_rfl) ?_)
                                                            | (with_reducible exact done_eq rfl)
                                                            | (simp -dsimp [h3]))); (all_goals try with_reducible refine done_eq ?_)
end Go.Smd
end
section
namespace Go.Smd
open Go.RowKit Go.Proofs
theorem run_assert_same {P : Program} {U : TypeId} {d : TypeDesc} (hu : P.underlying U = some d) (hd : (match d with | .interface _ => false | _ => true) = true) (v : Value) (x : TypeId) (w : World) :
    (Instr.typeAssert (.iface U v) x U true).run P w = .ok (.tuple #[v, .bool true]) w := by
  unfold Instr.typeAssert
  simp only [Sem.run_bind, run_underlying hu, Result.andThen_ok]
  cases d <;> simp_all
theorem run_assert_other {P : Program} {U : TypeId} {d : TypeDesc} {z : Value} (hu : P.underlying U = some d) (hd : (match d with | .interface _ => false | _ => true) = true) (hz : (P.info? U).map (·.zero) = some (some z)) {t : TypeId} (ht : t ≠ U) (v : Value) (x : TypeId) (w : World) :
    (Instr.typeAssert (.iface t v) x U true).run P w = .ok (.tuple #[z, .bool false]) w := by
  obtain ⟨i, hi, hz'⟩ := Option.map_eq_some_iff.1 hz
  unfold Instr.typeAssert
  simp only [Sem.run_bind, run_underlying hu, Result.andThen_ok]
  cases d <;> simp_all [zeroValue, typeInfo]
theorem run_assert_nil {P : Program} {U : TypeId} {d : TypeDesc} {z : Value} (hu : P.underlying U = some d) (hd : (match d with | .interface _ => false | _ => true) = true) (hz : (P.info? U).map (·.zero) = some (some z)) (x : TypeId) (w : World) :
    (Instr.typeAssert .nilIface x U true).run P w = .ok (.tuple #[z, .bool false]) w := by
  obtain ⟨i, hi, hz'⟩ := Option.map_eq_some_iff.1 hz
  unfold Instr.typeAssert
  simp only [Sem.run_bind, run_underlying hu, Result.andThen_ok]
  cases d <;> simp_all [zeroValue, typeInfo]
@[go_sem] theorem as_list_same (v : Value) (x : TypeId) (w : World) : (Instr.typeAssert (.iface 128 v) x 128 true).run Try.prog w = .ok (.tuple #[v, .bool true]) w := run_assert_same (d := _) Try.underlying128 rfl v x w
@[go_sem] theorem as_list_other (t : TypeId) (ht : (t == 128) = false) (v : Value) (x : TypeId) (w : World) : (Instr.typeAssert (.iface t v) x 128 true).run Try.prog w = .ok (.tuple #[.slice none 0 0, .bool false]) w := run_assert_other (d := _) Try.underlying128 rfl (by kernel_rfl) (by simpa using ht) v x w
@[go_sem] theorem as_list_nil (x : TypeId) (w : World) : (Instr.typeAssert .nilIface x 128 true).run Try.prog w = .ok (.tuple #[.slice none 0 0, .bool false]) w := run_assert_nil (d := _) Try.underlying128 rfl (by kernel_rfl) x w
@[go_sem] theorem as_map_same (v : Value) (x : TypeId) (w : World) : (Instr.typeAssert (.iface 154 v) x 154 true).run Try.prog w = .ok (.tuple #[v, .bool true]) w := run_assert_same (d := _) Try.underlying154 rfl v x w
@[go_sem] theorem as_map_other (t : TypeId) (ht : (t == 154) = false) (v : Value) (x : TypeId) (w : World) : (Instr.typeAssert (.iface t v) x 154 true).run Try.prog w = .ok (.tuple #[.map none, .bool false]) w := run_assert_other (d := _) Try.underlying154 rfl (by kernel_rfl) (by simpa using ht) v x w
@[go_sem] theorem as_map_nil (x : TypeId) (w : World) : (Instr.typeAssert .nilIface x 154 true).run Try.prog w = .ok (.tuple #[.map none, .bool false]) w := run_assert_nil (d := _) Try.underlying154 rfl (by kernel_rfl) x w
@[go_sem] theorem as_i64_same (v : Value) (x : TypeId) (w : World) : (Instr.typeAssert (.iface 2 v) x 2 true).run Try.prog w = .ok (.tuple #[v, .bool true]) w := run_assert_same (d := _) Try.underlying2 rfl v x w
@[go_sem] theorem as_i64_other (t : TypeId) (ht : (t == 2) = false) (v : Value) (x : TypeId) (w : World) : (Instr.typeAssert (.iface t v) x 2 true).run Try.prog w = .ok (.tuple #[.int .i64 0, .bool false]) w := run_assert_other (d := _) Try.underlying2 rfl (by kernel_rfl) (by simpa using ht) v x w
@[go_sem] theorem as_i64_nil (x : TypeId) (w : World) : (Instr.typeAssert .nilIface x 2 true).run Try.prog w = .ok (.tuple #[.int .i64 0, .bool false]) w := run_assert_nil (d := _) Try.underlying2 rfl (by kernel_rfl) x w
@[go_sem] theorem as_i32_same (v : Value) (x : TypeId) (w : World) : (Instr.typeAssert (.iface 21 v) x 21 true).run Try.prog w = .ok (.tuple #[v, .bool true]) w := run_assert_same (d := _) Try.underlying21 rfl v x w
@[go_sem] theorem as_i32_other (t : TypeId) (ht : (t == 21) = false) (v : Value) (x : TypeId) (w : World) : (Instr.typeAssert (.iface t v) x 21 true).run Try.prog w = .ok (.tuple #[.int .i32 0, .bool false]) w := run_assert_other (d := _) Try.underlying21 rfl (by kernel_rfl) (by simpa using ht) v x w
@[go_sem] theorem as_i32_nil (x : TypeId) (w : World) : (Instr.typeAssert .nilIface x 21 true).run Try.prog w = .ok (.tuple #[.int .i32 0, .bool false]) w := run_assert_nil (d := _) Try.underlying21 rfl (by kernel_rfl) x w
@[go_sem] theorem as_f64_same (v : Value) (x : TypeId) (w : World) : (Instr.typeAssert (.iface 22 v) x 22 true).run Try.prog w = .ok (.tuple #[v, .bool true]) w := run_assert_same (d := _) Try.underlying22 rfl v x w
@[go_sem] theorem as_f64_other (t : TypeId) (ht : (t == 22) = false) (v : Value) (x : TypeId) (w : World) : (Instr.typeAssert (.iface t v) x 22 true).run Try.prog w = .ok (.tuple #[.float .f64 0, .bool false]) w := run_assert_other (d := _) Try.underlying22 rfl (by kernel_rfl) (by simpa using ht) v x w
@[go_sem] theorem as_f64_nil (x : TypeId) (w : World) : (Instr.typeAssert .nilIface x 22 true).run Try.prog w = .ok (.tuple #[.float .f64 0, .bool false]) w := run_assert_nil (d := _) Try.underlying22 rfl (by kernel_rfl) x w
@[go_sem] theorem as_int_same (v : Value) (x : TypeId) (w : World) : (Instr.typeAssert (.iface 3 v) x 3 true).run Try.prog w = .ok (.tuple #[v, .bool true]) w := run_assert_same (d := _) Try.underlying3 rfl v x w
@[go_sem] theorem as_int_other (t : TypeId) (ht : (t == 3) = false) (v : Value) (x : TypeId) (w : World) : (Instr.typeAssert (.iface t v) x 3 true).run Try.prog w = .ok (.tuple #[.int .i64 0, .bool false]) w := run_assert_other (d := _) Try.underlying3 rfl (by kernel_rfl) (by simpa using ht) v x w
@[go_sem] theorem as_int_nil (x : TypeId) (w : World) : (Instr.typeAssert .nilIface x 3 true).run Try.prog w = .ok (.tuple #[.int .i64 0, .bool false]) w := run_assert_nil (d := _) Try.underlying3 rfl (by kernel_rfl) x w
@[go_sem] theorem as_bool_same (v : Value) (x : TypeId) (w : World) : (Instr.typeAssert (.iface 4 v) x 4 true).run Try.prog w = .ok (.tuple #[v, .bool true]) w := run_assert_same (d := _) Try.underlying4 rfl v x w
@[go_sem] theorem as_bool_other (t : TypeId) (ht : (t == 4) = false) (v : Value) (x : TypeId) (w : World) : (Instr.typeAssert (.iface t v) x 4 true).run Try.prog w = .ok (.tuple #[.bool false, .bool false]) w := run_assert_other (d := _) Try.underlying4 rfl (by kernel_rfl) (by simpa using ht) v x w
@[go_sem] theorem as_bool_nil (x : TypeId) (w : World) : (Instr.typeAssert .nilIface x 4 true).run Try.prog w = .ok (.tuple #[.bool false, .bool false]) w := run_assert_nil (d := _) Try.underlying4 rfl (by kernel_rfl) x w
@[go_sem] theorem as_u8_same (v : Value) (x : TypeId) (w : World) : (Instr.typeAssert (.iface 5 v) x 5 true).run Try.prog w = .ok (.tuple #[v, .bool true]) w := run_assert_same (d := _) Try.underlying5 rfl v x w
@[go_sem] theorem as_u8_other (t : TypeId) (ht : (t == 5) = false) (v : Value) (x : TypeId) (w : World) : (Instr.typeAssert (.iface t v) x 5 true).run Try.prog w = .ok (.tuple #[.int .u8 0, .bool false]) w := run_assert_other (d := _) Try.underlying5 rfl (by kernel_rfl) (by simpa using ht) v x w
@[go_sem] theorem as_u8_nil (x : TypeId) (w : World) : (Instr.typeAssert .nilIface x 5 true).run Try.prog w = .ok (.tuple #[.int .u8 0, .bool false]) w := run_assert_nil (d := _) Try.underlying5 rfl (by kernel_rfl) x w
@[go_sem] theorem as_str_same (v : Value) (x : TypeId) (w : World) : (Instr.typeAssert (.iface 9 v) x 9 true).run Try.prog w = .ok (.tuple #[v, .bool true]) w := run_assert_same (d := _) Try.underlying9 rfl v x w
@[go_sem] theorem as_str_other (t : TypeId) (ht : (t == 9) = false) (v : Value) (x : TypeId) (w : World) : (Instr.typeAssert (.iface t v) x 9 true).run Try.prog w = .ok (.tuple #[.string ⟨#[]⟩, .bool false]) w := run_assert_other (d := _) Try.underlying9 rfl (by kernel_rfl) (by simpa using ht) v x w
@[go_sem] theorem as_str_nil (x : TypeId) (w : World) : (Instr.typeAssert .nilIface x 9 true).run Try.prog w = .ok (.tuple #[.string ⟨#[]⟩, .bool false]) w := run_assert_nil (d := _) Try.underlying9 rfl (by kernel_rfl) x w
@[go_sem] theorem as_u32_same (v : Value) (x : TypeId) (w : World) : (Instr.typeAssert (.iface 260 v) x 260 true).run Try.prog w = .ok (.tuple #[v, .bool true]) w := run_assert_same (d := _) Try.underlying260 rfl v x w
@[go_sem] theorem as_u32_other (t : TypeId) (ht : (t == 260) = false) (v : Value) (x : TypeId) (w : World) : (Instr.typeAssert (.iface t v) x 260 true).run Try.prog w = .ok (.tuple #[.int .u32 0, .bool false]) w := run_assert_other (d := _) Try.underlying260 rfl (by kernel_rfl) (by simpa using ht) v x w
@[go_sem] theorem as_u32_nil (x : TypeId) (w : World) : (Instr.typeAssert .nilIface x 260 true).run Try.prog w = .ok (.tuple #[.int .u32 0, .bool false]) w := run_assert_nil (d := _) Try.underlying260 rfl (by kernel_rfl) x w
@[go_sem] theorem as_f32_same (v : Value) (x : TypeId) (w : World) : (Instr.typeAssert (.iface 279 v) x 279 true).run Try.prog w = .ok (.tuple #[v, .bool true]) w := run_assert_same (d := _) Try.underlying279 rfl v x w
@[go_sem] theorem as_f32_other (t : TypeId) (ht : (t == 279) = false) (v : Value) (x : TypeId) (w : World) : (Instr.typeAssert (.iface t v) x 279 true).run Try.prog w = .ok (.tuple #[.float .f32 0, .bool false]) w := run_assert_other (d := _) Try.underlying279 rfl (by kernel_rfl) (by simpa using ht) v x w
@[go_sem] theorem as_f32_nil (x : TypeId) (w : World) : (Instr.typeAssert .nilIface x 279 true).run Try.prog w = .ok (.tuple #[.float .f32 0, .bool false]) w := run_assert_nil (d := _) Try.underlying279 rfl (by kernel_rfl) x w
@[go_sem] theorem as_i8_same (v : Value) (x : TypeId) (w : World) : (Instr.typeAssert (.iface 281 v) x 281 true).run Try.prog w = .ok (.tuple #[v, .bool true]) w := run_assert_same (d := _) Try.underlying281 rfl v x w
@[go_sem] theorem as_i8_other (t : TypeId) (ht : (t == 281) = false) (v : Value) (x : TypeId) (w : World) : (Instr.typeAssert (.iface t v) x 281 true).run Try.prog w = .ok (.tuple #[.int .i8 0, .bool false]) w := run_assert_other (d := _) Try.underlying281 rfl (by kernel_rfl) (by simpa using ht) v x w
@[go_sem] theorem as_i8_nil (x : TypeId) (w : World) : (Instr.typeAssert .nilIface x 281 true).run Try.prog w = .ok (.tuple #[.int .i8 0, .bool false]) w := run_assert_nil (d := _) Try.underlying281 rfl (by kernel_rfl) x w
@[go_sem] theorem as_i16_same (v : Value) (x : TypeId) (w : World) : (Instr.typeAssert (.iface 283 v) x 283 true).run Try.prog w = .ok (.tuple #[v, .bool true]) w := run_assert_same (d := _) Try.underlying283 rfl v x w
@[go_sem] theorem as_i16_other (t : TypeId) (ht : (t == 283) = false) (v : Value) (x : TypeId) (w : World) : (Instr.typeAssert (.iface t v) x 283 true).run Try.prog w = .ok (.tuple #[.int .i16 0, .bool false]) w := run_assert_other (d := _) Try.underlying283 rfl (by kernel_rfl) (by simpa using ht) v x w
@[go_sem] theorem as_i16_nil (x : TypeId) (w : World) : (Instr.typeAssert .nilIface x 283 true).run Try.prog w = .ok (.tuple #[.int .i16 0, .bool false]) w := run_assert_nil (d := _) Try.underlying283 rfl (by kernel_rfl) x w
@[go_sem] theorem as_uint_same (v : Value) (x : TypeId) (w : World) : (Instr.typeAssert (.iface 286 v) x 286 true).run Try.prog w = .ok (.tuple #[v, .bool true]) w := run_assert_same (d := _) Try.underlying286 rfl v x w
@[go_sem] theorem as_uint_other (t : TypeId) (ht : (t == 286) = false) (v : Value) (x : TypeId) (w : World) : (Instr.typeAssert (.iface t v) x 286 true).run Try.prog w = .ok (.tuple #[.int .u64 0, .bool false]) w := run_assert_other (d := _) Try.underlying286 rfl (by kernel_rfl) (by simpa using ht) v x w
@[go_sem] theorem as_uint_nil (x : TypeId) (w : World) : (Instr.typeAssert .nilIface x 286 true).run Try.prog w = .ok (.tuple #[.int .u64 0, .bool false]) w := run_assert_nil (d := _) Try.underlying286 rfl (by kernel_rfl) x w
@[go_sem] theorem as_u16_same (v : Value) (x : TypeId) (w : World) : (Instr.typeAssert (.iface 289 v) x 289 true).run Try.prog w = .ok (.tuple #[v, .bool true]) w := run_assert_same (d := _) Try.underlying289 rfl v x w
@[go_sem] theorem as_u16_other (t : TypeId) (ht : (t == 289) = false) (v : Value) (x : TypeId) (w : World) : (Instr.typeAssert (.iface t v) x 289 true).run Try.prog w = .ok (.tuple #[.int .u16 0, .bool false]) w := run_assert_other (d := _) Try.underlying289 rfl (by kernel_rfl) (by simpa using ht) v x w
@[go_sem] theorem as_u16_nil (x : TypeId) (w : World) : (Instr.typeAssert .nilIface x 289 true).run Try.prog w = .ok (.tuple #[.int .u16 0, .bool false]) w := run_assert_nil (d := _) Try.underlying289 rfl (by kernel_rfl) x w
end Go.Smd
end
section
set_option linter.unusedSimpArgs false
namespace Go.Smd
open Go.RowKit Go.Proofs
def MapV (w : World) (S : Nat → Prop) (m : Fields) (v : Value) : Prop := ∃ r es clock, v = .iface 293 (.map (some r)) ∧ w.heap[r]? = some (.map es clock) ∧ es.size = m.length ∧ RepT w S (.map m) (.iface 154 (.map (some r)))
set_option maxRecDepth 100000 in
set_option maxHeartbeats 1000000 in
theorem asMap_c (m : Fields) (v : Value) (w : World) (S : Nat → Prop) (x : Value) (hv : v = .agg #[x]) (hx : RepT w S (.map m) x) :
    Calls Try.prog 162 #[v] w (Makes (fun W u => MapV W S m u) w) := by
  subst hv
  have Hx := Lib.hid hx
  cases hx with
  | @map _ _ r es clock hS hr hm hk hs hb hbc hv =>
  have HF : Hid (∀ W, Ext w W → Makes (fun W u => MapV W S m u) w (.returned (.iface 293 (.map (some r)))) W) := fun W e => ⟨_, rfl, ⟨r, es.toArray, clock, rfl, e.heap hr, by have := congrArg List.length hk; simpa using this, Hx.out.ext e⟩, e⟩
  clear hb hbc hv hs hk hm
  go_enter Try.func162, Try.ntmps162
  go_wp2
  go_ret
  exact HF.out _ (((Ext.refl w).alloc _).alloc _ |>.alloc _)
set_option maxRecDepth 100000 in
set_option maxHeartbeats 1000000 in
theorem toMapping_c (keys : List ByteArray) (l : List GV) (kind n : Int) (f : Nat) (s : ByteArray) (cs : List Value) (w : World) (S : Nat → Prop) (hv : RepGV S w (.mk kind n f s keys l) cs) :
    Calls Try.prog 54 #[.agg cs.toArray] w (Makes (fun W u => MapV W (w.heap.size ≤ ·) (mapOf keys (treesOf l) []) u) w) := by
  have hm := plainMap_step kind n f s keys l (fun x _ => plain_c x) cs (w.alloc (.cells cs.toArray 26)) S (hv.ext ((Ext.refl _).alloc _))
  obtain ⟨ka, kc, la, lc, rfl, ok, hkc, hlc, hks, hls⟩ := hv.open
  have HM := Lib.hid hm
  clear hm ok hkc hlc hks hls hv
  go_enter Try.func54, Try.ntmps54
  go_wp2_with fail
  refine HM.out.mono ?_
  rintro e w1 ⟨u, rfl, ⟨r, rfl, hu⟩, hE⟩
  have HE := Lib.hid (((Ext.refl w).alloc (.cells #[.int .i64 kind, .int .i64 n, .float .f64 f, .string s, .slice ka keys.length kc, .slice la l.length lc] 26)).trans hE)
  have HU := Lib.hid (hu.mono fun b hb => show w.heap.size ≤ b by rw [size_alloc] at hb; omega)
  clear hE hu
  go_wp2_with fail
  refine (newV_c _ _ w1 _ HU.out).mono ?_
  rintro e w2 ⟨u, rfl, ⟨a, x, rfl, ha, hx, hr⟩, hE2⟩
  have hf := hr.form
  have Hr := Lib.hid (hr.mono fun b hb => show w.heap.size ≤ b by have := HE.out.size; rcases hb with hb | hb <;> omega)
  have HE2 := Lib.hid (HE.out.trans hE2)
  clear hE2 hr ha
  go_wp2_with fail
  refine (asMap_c _ _ w2 _ x rfl Hr.out).mono ?_
  rintro e w3 ⟨u, rfl, hu, hE3⟩
  have HU3 := Lib.hid hu
  have HE3 := Lib.hid (HE2.out.trans hE3)
  have huu : ∃ r, u = .iface 293 (.map (some r)) := by obtain ⟨r, _, _, h, _⟩ := hu; exact ⟨r, h⟩
  obtain ⟨r3, rfl⟩ := huu
  clear hu hE3
  go_wp2
  go_ret
  exact ⟨_, rfl, HU3.out, HE3.out⟩
end Go.Smd
end
section
set_option linter.unusedSimpArgs false
namespace Go.Smd
open Go.RowKit Go.Proofs
open Classical in
theorem ins_count (k : ByteArray) (t : Tree) : ∀ m : Fields, (ins k t m).length = if k ∈ m.map (·.1) then m.length else m.length + 1
  | [] => by simp [ins]
  | p :: m => by
    simp only [ins]
    by_cases h : p.1 = k
    · rw [if_pos h]; simp [h]
    · rw [if_neg h, List.length_cons, ins_count k t m]
      have h' : ¬ k = p.1 := fun e => h e.symm
      simp only [List.map_cons, List.mem_cons, h', false_or]
      split <;> simp
theorem sIns_memk {α : Type} (k q : ByteArray) (v : α) : ∀ m : List (ByteArray × α), q ∈ (sIns k v m).map (·.1) ↔ q = k ∨ q ∈ m.map (·.1)
  | [] => by simp [sIns]
  | p :: m => by
    simp only [sIns]
    split
    · have := sIns_memk k q v m
      simp only [List.map_cons, List.mem_cons, this]
      constructor <;> rintro (h | h | h) <;> simp [h]
    · split
      · next h => simp [h]
      · simp
open Classical in
theorem sIns_count {α : Type} (k : ByteArray) (v : α) : ∀ m : List (ByteArray × α), Sorted m → (sIns k v m).length = if k ∈ m.map (·.1) then m.length else m.length + 1
  | [], _ => by simp [sIns]
  | p :: m, hs => by
    simp only [Sorted, List.map_cons, List.pairwise_cons] at hs
    simp only [sIns]
    split
    · next hb =>
      have hne : ¬ k = p.1 := fun e => by rw [e, blt_irrefl] at hb; cases hb
      rw [List.length_cons, sIns_count k v m hs.2]
      simp only [List.map_cons, List.mem_cons, hne, false_or]
      split <;> simp
    · next hb =>
      split
      · next h => simp [h]
      · next h =>
        have hk : ¬ k ∈ (p :: m).map (·.1) := fun hm => by
          rw [List.map_cons] at hm
          rcases List.mem_cons.1 hm with e | e
          · exact h e.symm
          · exact hb (hs.1 k e)
        rw [if_neg hk]; simp
open Classical in
theorem count_eq : ∀ (ks : List ByteArray) (l : List GV) (m : Fields) (m' : List (ByteArray × GV)), Sorted m' → (∀ q, q ∈ m.map (·.1) ↔ q ∈ m'.map (·.1)) → m.length = m'.length →
    (mapOf ks (treesOf l) m).length = (insAll ks (cleans l) m').length
  | [], l, m, m', _, _, hl => by cases l <;> simp [mapOf, insAll, treesOf, cleans, hl]
  | k :: ks, [], m, m', _, _, hl => by simp [mapOf, insAll, treesOf, cleans, hl]
  | k :: ks, x :: l, m, m', hs, hm, hl => by
    simp only [treesOf, cleans, mapOf, insAll]
    refine count_eq ks l _ _ (sIns_sorted hs) (fun q => ?_) ?_
    · rw [ins_mem, sIns_memk, hm q]
    · rw [ins_count, sIns_count k _ m' hs, hl]
      simp only [hm k]
end Go.Smd
end
