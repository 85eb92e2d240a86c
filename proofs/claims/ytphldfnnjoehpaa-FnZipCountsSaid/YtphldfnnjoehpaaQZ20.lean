/- Part 20 of the proof: Zc Law. -/
import Derived.Test.YtphldfnnjoehpaaQZ19
import Derived.Test.YtphldfnnjoehpaaRows
import Derived.Test.YtphldfnnjoehpaaQZ01
import Derived.ProofKit
set_option linter.unusedVariables false
section
set_option linter.unusedSimpArgs false
set_option maxRecDepth 100000
set_option maxHeartbeats 8000000
namespace Go.Smd
open Go.RowKit Go.Proofs
theorem sameValue_b (g : GV) : ACalls Try.prog 17 [gvA g, gvA g] (fun r => r = aV (.bool true)) := by
  have h1 := clean_a g
  obtain ⟨a1, a2, a3, a4, a5, a6⟩ := g
  obtain ⟨b1, b2, b3, b4, b5, b6, hcl⟩ : ∃ b1 b2 b3 b4 b5 b6, clean (.mk a1 a2 a3 a4 a5 a6) = .mk b1 b2 b3 b4 b5 b6 := by cases clean (.mk a1 a2 a3 a4 a5 a6); exact ⟨_, _, _, _, _, _, rfl⟩
  rw [hcl, gvA_x, gvA_x] at h1
  rw [gvA_x]
  refine acalls_ex [(1, ([3, 4], [(0, []), (2, []), (1, []), (3, []), (4, []), (5, [])]))] Try.func17 (by kernel_rfl) rfl Try.ntmps17 Try.results17 (Nat.le_of_ble_eq_true (by kernel_rfl)) ?_; intro hok w0 S0
  clear hok
  (repeat' (first
                                                            | (with_reducible refine br_d (fun _ => ?_) (fun _ => ?_))
                                                            | (with_reducible refine br_i (fun _ => ?_) (fun _ => ?_))
                                                            | (with_reducible refine nd_v (h1) (by first | rfl | (simp -dsimp; done)) ?_)
                                                            | (with_reducible refine nw_v (h1) rfl (by first | rfl | (simp -dsimp; done)) (by first | rfl | (simp -dsimp; done)) ?_)
                                                            | (with_reducible refine nd_v (identical_x _ _ _ _ _ _) (by first | rfl | (simp -dsimp; done)) ?_)
                                                            | (with_reducible refine nw_v (identical_x _ _ _ _ _ _) rfl (by first | rfl | (simp -dsimp; done)) (by first | rfl | (simp -dsimp; done)) ?_)
                                                            | ((with_reducible apply nd_next); (case hx => simp -dsimp; first | done | with_reducible rfl); (case hid => simp -dsimp; first | done | with_reducible rfl | exact ⟨rfl, rfl, rfl⟩ | exact ⟨rfl, rfl⟩); (case' h1 => intro _ _ _); (case' h0 => intro _))
                                                            | ((with_reducible apply nd_entry); (case hx => simp -dsimp; first | done | with_reducible rfl); (case hid => simp -dsimp; first | done | with_reducible rfl | exact ⟨rfl, rfl, rfl⟩ | exact ⟨rfl, rfl⟩))
                                                            | ((with_reducible apply nd_range); (case hx => simp -dsimp; with_reducible rfl); (case hT => simp -dsimp); (case hnd => assumption); (case hz => simp -dsimp))
                                                            | (with_reducible refine dn_i follows_any (by kernel_rfl) ?_)
                                                            | (with_reducible exact done_eq rfl)
                                                            | (simp -dsimp))); (all_goals try with_reducible refine done_eq ?_)
theorem list_a (L : List (List D)) (l : List GV) (hL : L = l.map gvD) : ACalls Try.prog 87 [.c (.d (.sl tGV L))] (fun r => r = gvX 5 0 0 ⟨#[]⟩ [] l) := by
  subst hL
  refine acalls_ex [] Try.func87 (by kernel_rfl) rfl Try.ntmps87 Try.results87 (Nat.le_of_ble_eq_true (by kernel_rfl)) ?_; intro hok w0 S0
  clear hok
  (repeat' (first
                                                            | (with_reducible refine br_d (fun _ => ?_) (fun _ => ?_))
                                                            | (with_reducible refine br_i (fun _ => ?_) (fun _ => ?_))
                                                            | ((with_reducible apply nd_next); (case hx => simp -dsimp; first | done | with_reducible rfl); (case hid => simp -dsimp; first | done | with_reducible rfl | exact ⟨rfl, rfl, rfl⟩ | exact ⟨rfl, rfl⟩); (case' h1 => intro _ _ _); (case' h0 => intro _))
                                                            | ((with_reducible apply nd_entry); (case hx => simp -dsimp; first | done | with_reducible rfl); (case hid => simp -dsimp; first | done | with_reducible rfl | exact ⟨rfl, rfl, rfl⟩ | exact ⟨rfl, rfl⟩))
                                                            | ((with_reducible apply nd_range); (case hx => simp -dsimp; with_reducible rfl); (case hT => simp -dsimp); (case hnd => assumption); (case hz => simp -dsimp))
                                                            | (with_reducible refine dn_i follows_any (by kernel_rfl) ?_)
                                                            | (with_reducible exact done_eq rfl)
                                                            | (simp -dsimp))); (all_goals try with_reducible refine done_eq ?_)
theorem sameValues_a (a b : Int) (c : Nat) (d : ByteArray) (e : List ByteArray) (f : List GV) : ACalls Try.prog 42 [.c (.d (.sl tGV [[dI a, dI b, dF c, dS d, dStrs e, dGVs f]])), .c (.d (.sl tGV [[dI a, dI b, dF c, dS d, dStrs e, dGVs f]]))] (fun r => r = aV (.bool true)) := by
  have h1 := list_a [[dI a, dI b, dF c, dS d, dStrs e, dGVs f]] [.mk a b c d e f] (by simp [gvD_mk])
  have h2 := sameValue_b (.mk 5 0 0 ⟨#[]⟩ [] [.mk a b c d e f])
  rw [gvA_x] at h2
  refine acalls_ex [] Try.func42 (by kernel_rfl) rfl Try.ntmps42 Try.results42 (Nat.le_of_ble_eq_true (by kernel_rfl)) ?_; intro hok w0 S0
  clear hok
  (repeat' (first
                                                            | (with_reducible refine br_d (fun _ => ?_) (fun _ => ?_))
                                                            | (with_reducible refine br_i (fun _ => ?_) (fun _ => ?_))
                                                            | (with_reducible refine nd_v (h1) (by first | rfl | (simp -dsimp; done)) ?_)
                                                            | (with_reducible refine nw_v (h1) rfl (by first | rfl | (simp -dsimp; done)) (by first | rfl | (simp -dsimp; done)) ?_)
                                                            | (with_reducible refine nd_v (h2) (by first | rfl | (simp -dsimp; done)) ?_)
                                                            | (with_reducible refine nw_v (h2) rfl (by first | rfl | (simp -dsimp; done)) (by first | rfl | (simp -dsimp; done)) ?_)
                                                            | ((with_reducible apply nd_next); (case hx => simp -dsimp; first | done | with_reducible rfl); (case hid => simp -dsimp; first | done | with_reducible rfl | exact ⟨rfl, rfl, rfl⟩ | exact ⟨rfl, rfl⟩); (case' h1 => intro _ _ _); (case' h0 => intro _))
                                                            | ((with_reducible apply nd_entry); (case hx => simp -dsimp; first | done | with_reducible rfl); (case hid => simp -dsimp; first | done | with_reducible rfl | exact ⟨rfl, rfl, rfl⟩ | exact ⟨rfl, rfl⟩))
                                                            | ((with_reducible apply nd_range); (case hx => simp -dsimp; with_reducible rfl); (case hT => simp -dsimp); (case hnd => assumption); (case hz => simp -dsimp))
                                                            | (with_reducible refine dn_i follows_any (by kernel_rfl) ?_)
                                                            | (with_reducible exact done_eq rfl)
                                                            | (simp -dsimp))); (all_goals try with_reducible refine done_eq ?_)
theorem mapValue_a : ACalls Try.prog 43 [] (fun r => r = gvX 6 0 0 ⟨#[]⟩ [] []) := by
  refine acalls_ex [] Try.func43 (by kernel_rfl) rfl Try.ntmps43 Try.results43 (Nat.le_of_ble_eq_true (by kernel_rfl)) ?_; intro hok w0 S0
  clear hok
  (repeat' (first
                                                            | (with_reducible refine br_d (fun _ => ?_) (fun _ => ?_))
                                                            | (with_reducible refine br_i (fun _ => ?_) (fun _ => ?_))
                                                            | ((with_reducible apply nd_next); (case hx => simp -dsimp; first | done | with_reducible rfl); (case hid => simp -dsimp; first | done | with_reducible rfl | exact ⟨rfl, rfl, rfl⟩ | exact ⟨rfl, rfl⟩); (case' h1 => intro _ _ _); (case' h0 => intro _))
                                                            | ((with_reducible apply nd_entry); (case hx => simp -dsimp; first | done | with_reducible rfl); (case hid => simp -dsimp; first | done | with_reducible rfl | exact ⟨rfl, rfl, rfl⟩ | exact ⟨rfl, rfl⟩))
                                                            | ((with_reducible apply nd_range); (case hx => simp -dsimp; with_reducible rfl); (case hT => simp -dsimp); (case hnd => assumption); (case hz => simp -dsimp))
                                                            | (with_reducible refine dn_i follows_any (by kernel_rfl) ?_)
                                                            | (with_reducible exact done_eq rfl)
                                                            | (simp -dsimp))); (all_goals try with_reducible refine done_eq ?_)
theorem uks_nodup (m1 m2 : List (ByteArray × Tree)) : (uks m1 m2).Nodup := sorted_nodup (fromMs_sorted _)
def bothK (m1 m2 : List (ByteArray × Tree)) (k : ByteArray) : Bool := (mget m1 k).isSome && (mget m2 k).isSome
theorem mget_iff {m : List (ByteArray × Tree)} {k : ByteArray} : (mget m k).isSome = true ↔ k ∈ m.map (·.1) := by
  constructor
  · intro h
    obtain ⟨t, ht⟩ := Option.isSome_iff_exists.1 h
    exact List.mem_map.2 ⟨_, mget_mem ht, rfl⟩
  · exact mget_some
theorem uks_self {m : List (ByteArray × Tree)} (hn : (m.map (·.1)).Nodup) : (uks m m).length = m.length := by
  have := nodup_perm (uks_nodup m m) hn fun q => by rw [uks_mem]; simp
  rwa [List.length_map] at this
theorem uks_nil {m : List (ByteArray × Tree)} (hn : (m.map (·.1)).Nodup) : (uks [] m).length = m.length := by
  have := nodup_perm (uks_nodup [] m) hn fun q => by rw [uks_mem]; simp
  rwa [List.length_map] at this
theorem part_len (p : ByteArray → Bool) (l : List ByteArray) : (l.filter p).length + (l.filter fun k => !p k).length = l.length := by
  induction l with
  | nil => rfl
  | cons k l ih =>
    rw [List.filter_cons, List.filter_cons]
    cases h : p k
    · simp only [Bool.false_eq_true, if_false, Bool.not_false, if_true, List.length_cons]; omega
    · simp only [Bool.false_eq_true, if_false, Bool.not_true, if_true, List.length_cons]; omega
theorem uks_count {m1 m2 : List (ByteArray × Tree)} (h1 : (m1.map (·.1)).Nodup) (h2 : (m2.map (·.1)).Nodup) : (uks m1 m2).length + ((uks m1 m2).filter (bothK m1 m2)).length = m1.length + m2.length := by
  obtain ⟨A, hA⟩ : ∃ A : List ByteArray, A = m1.map (·.1) := ⟨_, rfl⟩
  obtain ⟨B, hB⟩ : ∃ B : List ByteArray, B = m2.map (·.1) := ⟨_, rfl⟩
  rw [← hA] at h1
  rw [← hB] at h2
  have u : ∀ q, q ∈ uks m1 m2 ↔ q ∈ A ∨ q ∈ B := fun q => by rw [uks_mem, hA, hB]
  have g1 : ∀ q, (mget m1 q).isSome = true ↔ q ∈ A := fun q => by rw [mget_iff, hA]
  have g2 : ∀ q, (mget m2 q).isSome = true ↔ q ∈ B := fun q => by rw [mget_iff, hB]
  have e1 := nodup_perm (l := (uks m1 m2).filter (bothK m1 m2)) (m := B.filter fun k => (mget m1 k).isSome) ((uks_nodup m1 m2).filter _) (h2.filter _) fun q => by
    simp only [List.mem_filter, u, bothK, Bool.and_eq_true, g1, g2]
    constructor
    · exact fun h => ⟨h.2.2, h.2.1⟩
    · exact fun h => ⟨.inr h.1, h.2, h.1⟩
  have e2 := nodup_perm (l := uks m1 m2) (m := A ++ B.filter fun k => !(mget m1 k).isSome) (uks_nodup m1 m2) (by
    rw [List.nodup_append]
    refine ⟨h1, h2.filter _, fun a ha b hb e => ?_⟩
    subst e
    have h3 := (List.mem_filter.1 hb).2
    have h4 := (g1 a).2 ha
    rw [h4] at h3; cases h3) fun q => by
    rw [u, List.mem_append, List.mem_filter]
    constructor
    · rintro (h | h)
      · exact .inl h
      · by_cases h5 : q ∈ A
        · exact .inl h5
        · refine .inr ⟨h, ?_⟩
          cases h6 : (mget m1 q).isSome with
          | false => rfl
          | true => exact absurd ((g1 q).1 h6) h5
    · rintro (h | h)
      · exact .inl h
      · exact .inr h.1
  have e3 := part_len (fun k => (mget m1 k).isSome) B
  have l1 : A.length = m1.length := by rw [hA, List.length_map]
  have l2 : B.length = m2.length := by rw [hB, List.length_map]
  rw [List.length_append] at e2
  omega
theorem zRows_len (m1 m2 : List (ByteArray × Tree)) : (zRows m1 m2).length = (uks m1 m2).length := List.length_map ..
theorem insAll_len : ∀ (ks : List ByteArray) (vs : List GV) (m : List (ByteArray × GV)), (insAll ks vs m).length ≤ m.length + vs.length := fun ks vs m => Nat.le_trans (insAll_length ks vs m) (by omega)
theorem mOf_le {g : GV} (h : fits5 g = true) : (mOf g).length ≤ 2147483647 := by
  rw [mOf_len]
  obtain ⟨k, n, f, s, keys, l⟩ := g
  have h6 := insAll_len keys (cleans l) []
  simp only [fits5, Bool.and_eq_true, decide_eq_true_eq] at h
  have h7 : (cleans l).length = l.length := by rw [cleans_eq, List.length_map]
  simp only [fldsOf]
  simp only [List.length_nil] at h6
  omega
theorem w2 : IntKind.wrap .i64 2 = 2 := by rw [wrap_i64] <;> omega
abbrev cXV (a b : Int) (c : Nat) (d : ByteArray) (e : List ByteArray) (f : List GV) : Ow := .cells [.d (dI a), .d (dI b), .d (dF c), .d (dS d), .d (dStrs e), .d (dGVs f)] tGV
theorem fnZipCounts_a (g1 g2 : GV) : ACalls Try.prog 10 [gvA g1, gvA g2] (fun r => r = aV (.bool true)) := by
  have q1 := zzFits5_a g1
  have q2 := zzFits5_a g2
  by_cases k1 : fits5 g1 = true
  · by_cases k2 : fits5 g2 = true
    · have n1 := mOf_le k1
      have n2 := mOf_le k2
      have zz : ∀ a b : GV, (mOf a).length ≤ 4000000000 → (mOf b).length ≤ 4000000000 → ACalls Try.prog 40 [gvA a, gvA b] (fun r => r = .c (.d (.sl tZ (zRows (mOf a) (mOf b))))) := fun a b ha hb => (zipMaps_a a b ha hb).imp fun r hr => by subst hr; exact ⟨_, AvLe.oSl _ _, rfl⟩
      have zs : ∀ a : GV, (mOf a).length ≤ 4000000000 → ACalls Try.prog 41 [gvA a, gvA a] (fun r => r = .c (.d (.sl tZ ((fldsOf a).map zSelf)))) := fun a ha => (zip_a a (by rw [← mOf_len]; exact ha)).imp fun r hr => by subst hr; exact ⟨_, AvLe.oSl _ _, rfl⟩
      have z1 := zz g1 g2 (by omega) (by omega)
      have z2 := zz g1 g1 (by omega) (by omega)
      have z3 := zz (.mk 6 0 0 ⟨#[]⟩ [] []) g2 (by simp [mOf, mapOf]) (by omega)
      have s1 := zs g1 (by omega)
      have s2 := zs g2 (by omega)
      have e0 : mOf (.mk 6 0 0 ⟨#[]⟩ [] []) = [] := by simp [mOf, mapOf]
      rw [e0] at z3
      obtain ⟨S1, hS1⟩ : ∃ S1, S1 = (fldsOf g1).map zSelf := ⟨_, rfl⟩
      obtain ⟨S2, hS2⟩ : ∃ S2, S2 = (fldsOf g2).map zSelf := ⟨_, rfl⟩
      have hs1 : S1.length = (mOf g1).length := by rw [hS1, List.length_map, mOf_len]
      have hs2 : S2.length = (mOf g2).length := by rw [hS2, List.length_map, mOf_len]
      rw [← hS1] at s1
      rw [← hS2] at s2
      clear hS1 hS2 zz zs
      obtain ⟨a, b, c, d, e, f⟩ := g1
      obtain ⟨a', b', c', d', e', f'⟩ := g2
      rw [gvA_x] at q1 q2 z1 z2 z3 s1 s2
      try rw [gvA_x] at z1 z3
      rw [gvA_x, gvA_x]
      rw [k1] at q1
      rw [k2] at q2
      refine acalls_ex [(12, ([], [(0, []), (1, []), (4, []), (5, []), (8, []), (9, []), (2, []), (3, []), (6, []), (7, []), (10, []), (11, []), (12, []), (13, [])])), (19, ([], [(0, []), (1, []), (4, []), (5, []), (6, []), (7, []), (8, []), (2, []), (3, []), (9, []), (10, []), (11, []), (12, []), (13, []), (14, []), (15, []), (16, []), (18, []), (21, []), (17, []), (19, []), (20, []), (22, []), (23, []), (24, [])]))] Try.func10 (by kernel_rfl) rfl Try.ntmps10 Try.results10 (Nat.le_of_ble_eq_true (by kernel_rfl)) ?_; intro hok w0 S0
      obtain ⟨d1, _, _⟩ := mOf_ok (by rw [gvA_x]; exact hok _ (List.mem_cons_self ..) : okA Try.prog (gvA (.mk a b c d e f)))
      obtain ⟨d2, _, _⟩ := mOf_ok (by rw [gvA_x]; exact hok _ (List.mem_cons_of_mem _ (List.mem_cons_self ..)) : okA Try.prog (gvA (.mk a' b' c' d' e' f')))
      clear hok
      change ((mOf (.mk a b c d e f)).map (·.1)).Nodup at d1
      change ((mOf (.mk a' b' c' d' e' f')).map (·.1)).Nodup at d2
      obtain ⟨m1, hm1⟩ : ∃ m, m = mOf (.mk a b c d e f) := ⟨_, rfl⟩
      obtain ⟨m2, hm2⟩ : ∃ m, m = mOf (.mk a' b' c' d' e' f') := ⟨_, rfl⟩
      rw [← hm1] at d1 z1 z2 hs1 n1
      rw [← hm2] at d2 z1 z3 hs2 n2
      clear hm1 hm2 k1 k2 e0
      have c1 := uks_count d1 d2
      have c2 := uks_self d1
      have c3 := uks_nil d2
      obtain ⟨U, hU⟩ : ∃ U, U = uks m1 m2 := ⟨_, rfl⟩
      have hUm : ∀ k ∈ U, (mget m1 k).isSome = true ∨ (mget m2 k).isSome = true := fun k hk => by rw [hU, uks_mem, ← mget_iff, ← mget_iff] at hk; exact hk
      have hV : ∀ k ∈ uks m1 m1, (mget m1 k).isSome = true := fun k hk => by rw [uks_mem, or_self, ← mget_iff] at hk; exact hk
      rw [← hU] at c1
      obtain ⟨R1, hR1⟩ : ∃ R1, R1 = zRows m1 m2 := ⟨_, rfl⟩
      obtain ⟨R2, hR2⟩ : ∃ R2, R2 = zRows m1 m1 := ⟨_, rfl⟩
      obtain ⟨R3, hR3⟩ : ∃ R3, R3 = zRows [] m2 := ⟨_, rfl⟩
      have r1 : R1.length = U.length := by rw [hR1, zRows_len, hU]
      have r2 : R2.length = m1.length := by rw [hR2, zRows_len, c2]
      have r3 : R3.length = m2.length := by rw [hR3, zRows_len, c3]
      have g1 : ∀ i (h : i < R1.length) (h2 : i < U.length), R1[i] = zRow m1 m2 U[i] := fun i h h2 => by subst hR1; subst hU; simp [zRows]
      have g2 : ∀ i (h : i < R2.length) (h2 : i < (uks m1 m1).length), R2[i] = zRow m1 m1 (uks m1 m1)[i] := fun i h h2 => by subst hR2; simp [zRows]
      rw [← hR1] at z1
      rw [← hR2] at z2
      rw [← hR3] at z3
      clear hR1 hR2 hR3
      have b1 : R1.length ≤ 9223372036854775807 := by omega
      have b2 : R2.length ≤ 9223372036854775807 := by omega
      (repeat' (first
                                                            | (with_reducible refine br_d (fun _ => ?_) (fun _ => ?_))
                                                            | (with_reducible refine br_i (fun _ => ?_) (fun _ => ?_))
                                                            | (with_reducible refine nd_v (q1) (by first | rfl | (simp -dsimp [b1]; done)) ?_)
                                                            | (with_reducible refine nw_v (q1) rfl (by first | rfl | (simp -dsimp [b1]; done)) (by first | rfl | (simp -dsimp [b1]; done)) ?_)
                                                            | (with_reducible refine nd_v (q2) (by first | rfl | (simp -dsimp [b1]; done)) ?_)
                                                            | (with_reducible refine nw_v (q2) rfl (by first | rfl | (simp -dsimp [b1]; done)) (by first | rfl | (simp -dsimp [b1]; done)) ?_)
                                                            | (with_reducible refine nd_v (z1) (by first | rfl | (simp -dsimp [b1]; done)) ?_)
                                                            | (with_reducible refine nw_v (z1) rfl (by first | rfl | (simp -dsimp [b1]; done)) (by first | rfl | (simp -dsimp [b1]; done)) ?_)
                                                            | ((with_reducible apply nd_next); (case hx => simp -dsimp [b1]; first | done | with_reducible rfl); (case hid => simp -dsimp [b1]; first | done | with_reducible rfl | exact ⟨rfl, rfl, rfl⟩ | exact ⟨rfl, rfl⟩); (case' h1 => intro _ _ _); (case' h0 => intro _))
                                                            | ((with_reducible apply nd_entry); (case hx => simp -dsimp [b1]; first | done | with_reducible rfl); (case hid => simp -dsimp [b1]; first | done | with_reducible rfl | exact ⟨rfl, rfl, rfl⟩ | exact ⟨rfl, rfl⟩))
                                                            | ((with_reducible apply nd_range); (case hx => simp -dsimp [b1]; with_reducible rfl); (case hT => simp -dsimp [b1]); (case hnd => assumption); (case hz => simp -dsimp [b1]))
                                                            | (with_reducible refine dn_i follows_any (by kernel_rfl) ?_)
                                                            | (with_reducible exact done_eq rfl)
                                                            | (simp -dsimp [b1]))); (all_goals try with_reducible refine done_eq ?_)
      refine ex_loop (fun i : Nat => ⟨[(2, .c (.own 2 0)), (3, .c (.own 3 0)), (5, aI ((U.take i).filter (bothK m1 m2)).length), (23, .c (.d (.sl tZ R1))), (24, aI R1.length), (25, aI i)], [(2, cXV a b c d e f), (3, cXV a' b' c' d' e' f')]⟩) (fun i => i ≤ R1.length) (fun i => R1.length - i) 0 ?_ (Nat.zero_le _) ?_
      · exact Weak.same (by simp -dsimp) (by simp -dsimp) (by first | rfl | (simp [closedSt, Av.ids, Ow.ids, Cl.ids, Go.Smd.keys]; done))
      · intro i hi K hK
        obtain ⟨C, hC⟩ : ∃ C, C = ((U.take i).filter (bothK m1 m2)).length := ⟨_, rfl⟩
        have hCl : C ≤ i := by rw [hC]; exact Nat.le_trans (List.length_filter_le ..) (by rw [List.length_take]; omega)
        rw [← hC]
        by_cases h1 : i < R1.length
        · have h2 : i < U.length := by omega
          have h3 : (i : Int) < R1.length := by omega
          have h0 : (0 : Int) ≤ (i : Int) := by omega
          have hwr : IntKind.wrap .i64 ((i : Int) + 1) = (i : Int) + 1 := by rw [wrap_i64] <;> omega
          have hwc : IntKind.wrap .i64 ((C : Int) + 1) = (C : Int) + 1 := by rw [wrap_i64] <;> omega
          obtain ⟨k, hk⟩ : ∃ k, k = U[i] := ⟨_, rfl⟩
          have hkm := hUm k (hk ▸ List.getElem_mem h2)
          cases hg1 : mget m1 k with
          | none =>
            cases hg2 : mget m2 k with
            | none => rw [hg1, hg2] at hkm; simp at hkm
            | some y =>
              obtain ⟨ya, yb, yc, yd, ye, yf, hy⟩ : ∃ a b c d e f, fromT y = .mk a b c d e f := by cases fromT y; exact ⟨_, _, _, _, _, _, rfl⟩
              have hz : R1[i] = [dS k, .v (.slice none 0 0), .sl tGV [[dI ya, dI yb, dF yc, dS yd, dStrs ye, dGVs yf]]] := by rw [g1 i h1 h2, ← hk]; simp only [zRow, hg1, hg2, gvO, oSl, gvD_mk, List.map_nil, List.map_cons, hy]
              have hbk : bothK m1 m2 k = false := by simp [bothK, hg1, hg2]
              have hcn : ((U.take (i + 1)).filter (bothK m1 m2)).length = C := by rw [List.take_succ_eq_append_getElem h2, ← hk, List.filter_append, List.length_append, ← hC]; simp [hbk]
              (repeat' (first
                                                            | (with_reducible refine br_d (fun _ => ?_) (fun _ => ?_))
                                                            | (with_reducible refine br_i (fun _ => ?_) (fun _ => ?_))
                                                            | ((with_reducible apply nd_next); (case hx => simp -dsimp [h1, h3, h0, hwr, hz, hwc, w1, w2]; first | done | with_reducible rfl); (case hid => simp -dsimp [h1, h3, h0, hwr, hz, hwc, w1, w2]; first | done | with_reducible rfl | exact ⟨rfl, rfl, rfl⟩ | exact ⟨rfl, rfl⟩); (case' h1 => intro _ _ _); (case' h0 => intro _))
                                                            | ((with_reducible apply nd_entry); (case hx => simp -dsimp [h1, h3, h0, hwr, hz, hwc, w1, w2]; first | done | with_reducible rfl); (case hid => simp -dsimp [h1, h3, h0, hwr, hz, hwc, w1, w2]; first | done | with_reducible rfl | exact ⟨rfl, rfl, rfl⟩ | exact ⟨rfl, rfl⟩))
                                                            | ((with_reducible apply nd_range); (case hx => simp -dsimp [h1, h3, h0, hwr, hz, hwc, w1, w2]; with_reducible rfl); (case hT => simp -dsimp [h1, h3, h0, hwr, hz, hwc, w1, w2]); (case hnd => assumption); (case hz => simp -dsimp [h1, h3, h0, hwr, hz, hwc, w1, w2]))
                                                            | (with_reducible refine dn_i follows_any (by kernel_rfl) ?_)
                                                            | (with_reducible exact done_eq rfl)
                                                            | (simp -dsimp [h1, h3, h0, hwr, hz, hwc, w1, w2]))); (all_goals try with_reducible refine done_eq ?_)
              refine hK _ (i + 1) ?_ (by omega) (by omega)
              rw [hcn]
              exact Weak.same (by simp -dsimp) (by simp -dsimp) (by first | rfl | (simp [closedSt, Av.ids, Ow.ids, Cl.ids, Go.Smd.keys]; done))
          | some x =>
            cases hg2 : mget m2 k with
            | none =>
              obtain ⟨xa, xb, xc, xd, xe, xf, hx⟩ : ∃ a b c d e f, fromT x = .mk a b c d e f := by cases fromT x; exact ⟨_, _, _, _, _, _, rfl⟩
              have hz : R1[i] = [dS k, .sl tGV [[dI xa, dI xb, dF xc, dS xd, dStrs xe, dGVs xf]], .v (.slice none 0 0)] := by rw [g1 i h1 h2, ← hk]; simp only [zRow, hg1, hg2, gvO, oSl, gvD_mk, List.map_nil, List.map_cons, hx]
              have hbk : bothK m1 m2 k = false := by simp [bothK, hg1, hg2]
              have hcn : ((U.take (i + 1)).filter (bothK m1 m2)).length = C := by rw [List.take_succ_eq_append_getElem h2, ← hk, List.filter_append, List.length_append, ← hC]; simp [hbk]
              (repeat' (first
                                                            | (with_reducible refine br_d (fun _ => ?_) (fun _ => ?_))
                                                            | (with_reducible refine br_i (fun _ => ?_) (fun _ => ?_))
                                                            | ((with_reducible apply nd_next); (case hx => simp -dsimp [h1, h3, h0, hwr, hz, hwc, w1, w2]; first | done | with_reducible rfl); (case hid => simp -dsimp [h1, h3, h0, hwr, hz, hwc, w1, w2]; first | done | with_reducible rfl | exact ⟨rfl, rfl, rfl⟩ | exact ⟨rfl, rfl⟩); (case' h1 => intro _ _ _); (case' h0 => intro _))
                                                            | ((with_reducible apply nd_entry); (case hx => simp -dsimp [h1, h3, h0, hwr, hz, hwc, w1, w2]; first | done | with_reducible rfl); (case hid => simp -dsimp [h1, h3, h0, hwr, hz, hwc, w1, w2]; first | done | with_reducible rfl | exact ⟨rfl, rfl, rfl⟩ | exact ⟨rfl, rfl⟩))
                                                            | ((with_reducible apply nd_range); (case hx => simp -dsimp [h1, h3, h0, hwr, hz, hwc, w1, w2]; with_reducible rfl); (case hT => simp -dsimp [h1, h3, h0, hwr, hz, hwc, w1, w2]); (case hnd => assumption); (case hz => simp -dsimp [h1, h3, h0, hwr, hz, hwc, w1, w2]))
                                                            | (with_reducible refine dn_i follows_any (by kernel_rfl) ?_)
                                                            | (with_reducible exact done_eq rfl)
                                                            | (simp -dsimp [h1, h3, h0, hwr, hz, hwc, w1, w2]))); (all_goals try with_reducible refine done_eq ?_)
              refine hK _ (i + 1) ?_ (by omega) (by omega)
              rw [hcn]
              exact Weak.same (by simp -dsimp) (by simp -dsimp) (by first | rfl | (simp [closedSt, Av.ids, Ow.ids, Cl.ids, Go.Smd.keys]; done))
            | some y =>
              obtain ⟨xa, xb, xc, xd, xe, xf, hx⟩ : ∃ a b c d e f, fromT x = .mk a b c d e f := by cases fromT x; exact ⟨_, _, _, _, _, _, rfl⟩
              obtain ⟨ya, yb, yc, yd, ye, yf, hy⟩ : ∃ a b c d e f, fromT y = .mk a b c d e f := by cases fromT y; exact ⟨_, _, _, _, _, _, rfl⟩
              have hz : R1[i] = [dS k, .sl tGV [[dI xa, dI xb, dF xc, dS xd, dStrs xe, dGVs xf]], .sl tGV [[dI ya, dI yb, dF yc, dS yd, dStrs ye, dGVs yf]]] := by rw [g1 i h1 h2, ← hk]; simp only [zRow, hg1, hg2, gvO, oSl, gvD_mk, List.map_nil, List.map_cons, hx, hy]
              have hbk : bothK m1 m2 k = true := by simp [bothK, hg1, hg2]
              have hcn : ((U.take (i + 1)).filter (bothK m1 m2)).length = C + 1 := by rw [List.take_succ_eq_append_getElem h2, ← hk, List.filter_append, List.length_append, ← hC]; simp [hbk]
              (repeat' (first
                                                            | (with_reducible refine br_d (fun _ => ?_) (fun _ => ?_))
                                                            | (with_reducible refine br_i (fun _ => ?_) (fun _ => ?_))
                                                            | ((with_reducible apply nd_next); (case hx => simp -dsimp [h1, h3, h0, hwr, hz, hwc, w1, w2]; first | done | with_reducible rfl); (case hid => simp -dsimp [h1, h3, h0, hwr, hz, hwc, w1, w2]; first | done | with_reducible rfl | exact ⟨rfl, rfl, rfl⟩ | exact ⟨rfl, rfl⟩); (case' h1 => intro _ _ _); (case' h0 => intro _))
                                                            | ((with_reducible apply nd_entry); (case hx => simp -dsimp [h1, h3, h0, hwr, hz, hwc, w1, w2]; first | done | with_reducible rfl); (case hid => simp -dsimp [h1, h3, h0, hwr, hz, hwc, w1, w2]; first | done | with_reducible rfl | exact ⟨rfl, rfl, rfl⟩ | exact ⟨rfl, rfl⟩))
                                                            | ((with_reducible apply nd_range); (case hx => simp -dsimp [h1, h3, h0, hwr, hz, hwc, w1, w2]; with_reducible rfl); (case hT => simp -dsimp [h1, h3, h0, hwr, hz, hwc, w1, w2]); (case hnd => assumption); (case hz => simp -dsimp [h1, h3, h0, hwr, hz, hwc, w1, w2]))
                                                            | (with_reducible refine dn_i follows_any (by kernel_rfl) ?_)
                                                            | (with_reducible exact done_eq rfl)
                                                            | (simp -dsimp [h1, h3, h0, hwr, hz, hwc, w1, w2]))); (all_goals try with_reducible refine done_eq ?_)
              refine hK _ (i + 1) ?_ (by omega) (by omega)
              rw [hcn]
              exact Weak.same (by simp -dsimp) (by simp -dsimp) (by first | rfl | (simp [closedSt, Av.ids, Ow.ids, Cl.ids, Go.Smd.keys]; done))
        · have h3 : ¬ (i : Int) < R1.length := by omega
          have ei : U.take i = U := List.take_of_length_le (by omega)
          rw [ei] at hC
          rw [← hC] at c1
          have b3 : m1.length ≤ 9223372036854775807 := by omega
          have b4 : m2.length ≤ 9223372036854775807 := by omega
          (repeat' (first
                                                            | (with_reducible refine br_d (fun _ => ?_) (fun _ => ?_))
                                                            | (with_reducible refine br_i (fun _ => ?_) (fun _ => ?_))
                                                            | (with_reducible refine nd_v (s1) (by first | rfl | (simp -dsimp [h3, b2, b3, b4, hs1, hs2, r2]; done)) ?_)
                                                            | (with_reducible refine nw_v (s1) rfl (by first | rfl | (simp -dsimp [h3, b2, b3, b4, hs1, hs2, r2]; done)) (by first | rfl | (simp -dsimp [h3, b2, b3, b4, hs1, hs2, r2]; done)) ?_)
                                                            | (with_reducible refine nd_v (s2) (by first | rfl | (simp -dsimp [h3, b2, b3, b4, hs1, hs2, r2]; done)) ?_)
                                                            | (with_reducible refine nw_v (s2) rfl (by first | rfl | (simp -dsimp [h3, b2, b3, b4, hs1, hs2, r2]; done)) (by first | rfl | (simp -dsimp [h3, b2, b3, b4, hs1, hs2, r2]; done)) ?_)
                                                            | (with_reducible refine nd_v (z2) (by first | rfl | (simp -dsimp [h3, b2, b3, b4, hs1, hs2, r2]; done)) ?_)
                                                            | (with_reducible refine nw_v (z2) rfl (by first | rfl | (simp -dsimp [h3, b2, b3, b4, hs1, hs2, r2]; done)) (by first | rfl | (simp -dsimp [h3, b2, b3, b4, hs1, hs2, r2]; done)) ?_)
                                                            | ((with_reducible apply nd_next); (case hx => simp -dsimp [h3, b2, b3, b4, hs1, hs2, r2]; first | done | with_reducible rfl); (case hid => simp -dsimp [h3, b2, b3, b4, hs1, hs2, r2]; first | done | with_reducible rfl | exact ⟨rfl, rfl, rfl⟩ | exact ⟨rfl, rfl⟩); (case' h1 => intro _ _ _); (case' h0 => intro _))
                                                            | ((with_reducible apply nd_entry); (case hx => simp -dsimp [h3, b2, b3, b4, hs1, hs2, r2]; first | done | with_reducible rfl); (case hid => simp -dsimp [h3, b2, b3, b4, hs1, hs2, r2]; first | done | with_reducible rfl | exact ⟨rfl, rfl, rfl⟩ | exact ⟨rfl, rfl⟩))
                                                            | ((with_reducible apply nd_range); (case hx => simp -dsimp [h3, b2, b3, b4, hs1, hs2, r2]; with_reducible rfl); (case hT => simp -dsimp [h3, b2, b3, b4, hs1, hs2, r2]); (case hnd => assumption); (case hz => simp -dsimp [h3, b2, b3, b4, hs1, hs2, r2]))
                                                            | (with_reducible refine dn_i follows_any (by kernel_rfl) ?_)
                                                            | (with_reducible exact done_eq rfl)
                                                            | (simp -dsimp [h3, b2, b3, b4, hs1, hs2, r2]))); (all_goals try with_reducible refine done_eq ?_)
          refine ex_loop (fun i : Nat => ⟨[(2, .c (.own 2 0)), (3, .c (.own 3 0)), (5, aI C), (8, aI m1.length), (9, aI m2.length), (10, .c (.d (.sl tZ R2))), (71, .c (.d (.sl tZ R2))), (72, aI m1.length), (73, aI i)], [(2, cXV a b c d e f), (3, cXV a' b' c' d' e' f')]⟩) (fun i => i ≤ R2.length) (fun i => R2.length - i) 0 ?_ (Nat.zero_le _) ?_
          · exact Weak.same (by simp -dsimp) (by simp -dsimp) (by first | rfl | (simp [closedSt, Av.ids, Ow.ids, Cl.ids, Go.Smd.keys]; done))
          · intro i hi K2 hK2
            by_cases h1 : i < R2.length
            · have h2 : i < (uks m1 m1).length := by omega
              have h3 : (i : Int) < m1.length := by omega
              have h0 : (0 : Int) ≤ (i : Int) := by omega
              have hwr : IntKind.wrap .i64 ((i : Int) + 1) = (i : Int) + 1 := by rw [wrap_i64] <;> omega
              obtain ⟨k, hk⟩ : ∃ k, k = (uks m1 m1)[i] := ⟨_, rfl⟩
              have hkm := hV k (hk ▸ List.getElem_mem h2)
              obtain ⟨x, hg1⟩ := Option.isSome_iff_exists.1 hkm
              obtain ⟨xa, xb, xc, xd, xe, xf, hx⟩ : ∃ a b c d e f, fromT x = .mk a b c d e f := by cases fromT x; exact ⟨_, _, _, _, _, _, rfl⟩
              have hz : R2[i] = [dS k, .sl tGV [[dI xa, dI xb, dF xc, dS xd, dStrs xe, dGVs xf]], .sl tGV [[dI xa, dI xb, dF xc, dS xd, dStrs xe, dGVs xf]]] := by rw [g2 i h1 h2, ← hk]; simp only [zRow, hg1, gvO, oSl, gvD_mk, List.map_nil, List.map_cons, hx]
              (repeat' (first
                                                            | (with_reducible refine br_d (fun _ => ?_) (fun _ => ?_))
                                                            | (with_reducible refine br_i (fun _ => ?_) (fun _ => ?_))
                                                            | (with_reducible refine nd_v (sameValues_a _ _ _ _ _ _) (by first | rfl | (simp -dsimp [h1, h3, h0, hwr, hz, w1]; done)) ?_)
                                                            | (with_reducible refine nw_v (sameValues_a _ _ _ _ _ _) rfl (by first | rfl | (simp -dsimp [h1, h3, h0, hwr, hz, w1]; done)) (by first | rfl | (simp -dsimp [h1, h3, h0, hwr, hz, w1]; done)) ?_)
                                                            | ((with_reducible apply nd_next); (case hx => simp -dsimp [h1, h3, h0, hwr, hz, w1]; first | done | with_reducible rfl); (case hid => simp -dsimp [h1, h3, h0, hwr, hz, w1]; first | done | with_reducible rfl | exact ⟨rfl, rfl, rfl⟩ | exact ⟨rfl, rfl⟩); (case' h1 => intro _ _ _); (case' h0 => intro _))
                                                            | ((with_reducible apply nd_entry); (case hx => simp -dsimp [h1, h3, h0, hwr, hz, w1]; first | done | with_reducible rfl); (case hid => simp -dsimp [h1, h3, h0, hwr, hz, w1]; first | done | with_reducible rfl | exact ⟨rfl, rfl, rfl⟩ | exact ⟨rfl, rfl⟩))
                                                            | ((with_reducible apply nd_range); (case hx => simp -dsimp [h1, h3, h0, hwr, hz, w1]; with_reducible rfl); (case hT => simp -dsimp [h1, h3, h0, hwr, hz, w1]); (case hnd => assumption); (case hz => simp -dsimp [h1, h3, h0, hwr, hz, w1]))
                                                            | (with_reducible refine dn_i follows_any (by kernel_rfl) ?_)
                                                            | (with_reducible exact done_eq rfl)
                                                            | (simp -dsimp [h1, h3, h0, hwr, hz, w1]))); (all_goals try with_reducible refine done_eq ?_)
              refine hK2 _ (i + 1) ?_ (by omega) (by omega)
              exact Weak.same (by simp -dsimp) (by simp -dsimp) (by first | rfl | (simp [closedSt, Av.ids, Ow.ids, Cl.ids, Go.Smd.keys]; done))
            · have h3 : ¬ (i : Int) < m1.length := by omega
              have hw1 : IntKind.wrap .i64 ((m1.length : Int) + m2.length) = (m1.length : Int) + m2.length := by rw [wrap_i64] <;> omega
              have hw2 : IntKind.wrap .i64 ((m1.length : Int) + m2.length - C) = (U.length : Int) := by rw [wrap_i64] <;> omega
              have b5 : U.length ≤ 9223372036854775807 := by omega
              (repeat' (first
                                                            | (with_reducible refine br_d (fun _ => ?_) (fun _ => ?_))
                                                            | (with_reducible refine br_i (fun _ => ?_) (fun _ => ?_))
                                                            | (with_reducible refine nd_v (z1) (by first | rfl | (simp -dsimp [h3, r1, r2, r3, hw1, hw2, b3, b4, b5]; done)) ?_)
                                                            | (with_reducible refine nw_v (z1) rfl (by first | rfl | (simp -dsimp [h3, r1, r2, r3, hw1, hw2, b3, b4, b5]; done)) (by first | rfl | (simp -dsimp [h3, r1, r2, r3, hw1, hw2, b3, b4, b5]; done)) ?_)
                                                            | (with_reducible refine nd_v (mapValue_a) (by first | rfl | (simp -dsimp [h3, r1, r2, r3, hw1, hw2, b3, b4, b5]; done)) ?_)
                                                            | (with_reducible refine nw_v (mapValue_a) rfl (by first | rfl | (simp -dsimp [h3, r1, r2, r3, hw1, hw2, b3, b4, b5]; done)) (by first | rfl | (simp -dsimp [h3, r1, r2, r3, hw1, hw2, b3, b4, b5]; done)) ?_)
                                                            | (with_reducible refine nd_v (z3) (by first | rfl | (simp -dsimp [h3, r1, r2, r3, hw1, hw2, b3, b4, b5]; done)) ?_)
                                                            | (with_reducible refine nw_v (z3) rfl (by first | rfl | (simp -dsimp [h3, r1, r2, r3, hw1, hw2, b3, b4, b5]; done)) (by first | rfl | (simp -dsimp [h3, r1, r2, r3, hw1, hw2, b3, b4, b5]; done)) ?_)
                                                            | ((with_reducible apply nd_next); (case hx => simp -dsimp [h3, r1, r2, r3, hw1, hw2, b3, b4, b5]; first | done | with_reducible rfl); (case hid => simp -dsimp [h3, r1, r2, r3, hw1, hw2, b3, b4, b5]; first | done | with_reducible rfl | exact ⟨rfl, rfl, rfl⟩ | exact ⟨rfl, rfl⟩); (case' h1 => intro _ _ _); (case' h0 => intro _))
                                                            | ((with_reducible apply nd_entry); (case hx => simp -dsimp [h3, r1, r2, r3, hw1, hw2, b3, b4, b5]; first | done | with_reducible rfl); (case hid => simp -dsimp [h3, r1, r2, r3, hw1, hw2, b3, b4, b5]; first | done | with_reducible rfl | exact ⟨rfl, rfl, rfl⟩ | exact ⟨rfl, rfl⟩))
                                                            | ((with_reducible apply nd_range); (case hx => simp -dsimp [h3, r1, r2, r3, hw1, hw2, b3, b4, b5]; with_reducible rfl); (case hT => simp -dsimp [h3, r1, r2, r3, hw1, hw2, b3, b4, b5]); (case hnd => assumption); (case hz => simp -dsimp [h3, r1, r2, r3, hw1, hw2, b3, b4, b5]))
                                                            | (with_reducible refine dn_i follows_any (by kernel_rfl) ?_)
                                                            | (with_reducible exact done_eq rfl)
                                                            | (simp -dsimp [h3, r1, r2, r3, hw1, hw2, b3, b4, b5]))); (all_goals try with_reducible refine done_eq ?_)
    · have k2 : fits5 g2 = false := by simpa using k2
      rw [k1] at q1
      rw [k2] at q2
      obtain ⟨a, b, c, d, e, f⟩ := g1
      obtain ⟨a', b', c', d', e', f'⟩ := g2
      rw [gvA_x] at q1 q2
      rw [gvA_x, gvA_x]
      refine acalls_ex [(12, ([], [(0, []), (1, []), (4, []), (5, []), (8, []), (9, []), (2, []), (3, []), (6, []), (7, []), (10, []), (11, []), (12, []), (13, [])])), (19, ([], [(0, []), (1, []), (4, []), (5, []), (6, []), (7, []), (8, []), (2, []), (3, []), (9, []), (10, []), (11, []), (12, []), (13, []), (14, []), (15, []), (16, []), (18, []), (21, []), (17, []), (19, []), (20, []), (22, []), (23, []), (24, [])]))] Try.func10 (by kernel_rfl) rfl Try.ntmps10 Try.results10 (Nat.le_of_ble_eq_true (by kernel_rfl)) ?_; intro hok w0 S0
      clear hok
      (repeat' (first
                                                            | (with_reducible refine br_d (fun _ => ?_) (fun _ => ?_))
                                                            | (with_reducible refine br_i (fun _ => ?_) (fun _ => ?_))
                                                            | (with_reducible refine nd_v (q1) (by first | rfl | (simp -dsimp; done)) ?_)
                                                            | (with_reducible refine nw_v (q1) rfl (by first | rfl | (simp -dsimp; done)) (by first | rfl | (simp -dsimp; done)) ?_)
                                                            | (with_reducible refine nd_v (q2) (by first | rfl | (simp -dsimp; done)) ?_)
                                                            | (with_reducible refine nw_v (q2) rfl (by first | rfl | (simp -dsimp; done)) (by first | rfl | (simp -dsimp; done)) ?_)
                                                            | ((with_reducible apply nd_next); (case hx => simp -dsimp; first | done | with_reducible rfl); (case hid => simp -dsimp; first | done | with_reducible rfl | exact ⟨rfl, rfl, rfl⟩ | exact ⟨rfl, rfl⟩); (case' h1 => intro _ _ _); (case' h0 => intro _))
                                                            | ((with_reducible apply nd_entry); (case hx => simp -dsimp; first | done | with_reducible rfl); (case hid => simp -dsimp; first | done | with_reducible rfl | exact ⟨rfl, rfl, rfl⟩ | exact ⟨rfl, rfl⟩))
                                                            | ((with_reducible apply nd_range); (case hx => simp -dsimp; with_reducible rfl); (case hT => simp -dsimp); (case hnd => assumption); (case hz => simp -dsimp))
                                                            | (with_reducible refine dn_i follows_any (by kernel_rfl) ?_)
                                                            | (with_reducible exact done_eq rfl)
                                                            | (simp -dsimp))); (all_goals try with_reducible refine done_eq ?_)
  · have k1 : fits5 g1 = false := by simpa using k1
    rw [k1] at q1
    obtain ⟨a, b, c, d, e, f⟩ := g1
    obtain ⟨a', b', c', d', e', f'⟩ := g2
    rw [gvA_x] at q1
    rw [gvA_x, gvA_x]
    refine acalls_ex [(12, ([], [(0, []), (1, []), (4, []), (5, []), (8, []), (9, []), (2, []), (3, []), (6, []), (7, []), (10, []), (11, []), (12, []), (13, [])])), (19, ([], [(0, []), (1, []), (4, []), (5, []), (6, []), (7, []), (8, []), (2, []), (3, []), (9, []), (10, []), (11, []), (12, []), (13, []), (14, []), (15, []), (16, []), (18, []), (21, []), (17, []), (19, []), (20, []), (22, []), (23, []), (24, [])]))] Try.func10 (by kernel_rfl) rfl Try.ntmps10 Try.results10 (Nat.le_of_ble_eq_true (by kernel_rfl)) ?_; intro hok w0 S0
    clear hok
    (repeat' (first
                                                            | (with_reducible refine br_d (fun _ => ?_) (fun _ => ?_))
                                                            | (with_reducible refine br_i (fun _ => ?_) (fun _ => ?_))
                                                            | (with_reducible refine nd_v (q1) (by first | rfl | (simp -dsimp; done)) ?_)
                                                            | (with_reducible refine nw_v (q1) rfl (by first | rfl | (simp -dsimp; done)) (by first | rfl | (simp -dsimp; done)) ?_)
                                                            | ((with_reducible apply nd_next); (case hx => simp -dsimp; first | done | with_reducible rfl); (case hid => simp -dsimp; first | done | with_reducible rfl | exact ⟨rfl, rfl, rfl⟩ | exact ⟨rfl, rfl⟩); (case' h1 => intro _ _ _); (case' h0 => intro _))
                                                            | ((with_reducible apply nd_entry); (case hx => simp -dsimp; first | done | with_reducible rfl); (case hid => simp -dsimp; first | done | with_reducible rfl | exact ⟨rfl, rfl, rfl⟩ | exact ⟨rfl, rfl⟩))
                                                            | ((with_reducible apply nd_range); (case hx => simp -dsimp; with_reducible rfl); (case hT => simp -dsimp); (case hnd => assumption); (case hz => simp -dsimp))
                                                            | (with_reducible refine dn_i follows_any (by kernel_rfl) ?_)
                                                            | (with_reducible exact done_eq rfl)
                                                            | (simp -dsimp))); (all_goals try with_reducible refine done_eq ?_)
end Go.Smd
end
section
set_option linter.unusedSimpArgs false
namespace Go.Smd
open Go.RowKit Go.Proofs Go.ChangeShapes Go.WideShapes Go.ChangeAt
theorem own_knob : ownKnob Try.prog.godebug = none := by kernel_rfl
theorem laid_out : laidOutB Try.prog = true := by kernel_rfl
section
variable {H : Type} {enc : TypeId × Value → H}
theorem trodAll_below {W W' : World} (hb : Below W.heap.size W W') : ∀ {ts : List TypeId} {vs : List Value} {ds : List (DataW H)} {ps : List MemPlace},
    (∀ t ∈ ts, Try.prog.readableRec t = true ∧ t < Try.prog.types.size) → DataW.TrodAll enc Try.prog W 0 (fun _ => true) true ts vs ds ps → (∀ x ∈ ps, x.block < W.heap.size) →
    DataW.TrodAll enc Try.prog W' 0 (fun b => decide (b < W.heap.size)) true ts vs ds ps
  | [], vs, ds, ps, _, h, _ => by
    match vs, ds, h with
    | [], [], h => exact h
  | t :: ts, vs, ds, ps, hr, h, hlt => by
    match vs, ds, h with
    | v :: vs, d :: ds, ⟨p, q, h1, h2, e⟩ =>
      subst e
      exact ⟨p, q, Below.trod laid_out (hr t (List.mem_cons_self ..)).1 (hr t (List.mem_cons_self ..)).2 h1 hb fun x hx => hlt x (List.mem_append_left _ hx),
        trodAll_below hb (fun t ht => hr t (List.mem_cons_of_mem _ ht)) h2 fun x hx => hlt x (List.mem_append_right _ hx), rfl⟩
theorem law_post {fn : Func} {s : ChangeSpec} {W W' : World} {args : Array Value} {ds gs : List (DataW H)} {before : List MemPlace} (hv : s.vars = []) (hr : fn.resultTypes = #[4])
    (hp : ∀ t ∈ fn.params.toList, Try.prog.readableRec t = true ∧ t < Try.prog.types.size)
    (hW : DataW.Whole enc Try.prog fn.params.toList s.vars false W args.toList ds gs before) (hs : s.fn H ds = { results := [.lit (.bool true)], args := ds }) (hE : Ext W W') :
    s.post enc Try.prog fn false true false false W args (.bool true) W' := by
  have hlt : ∀ p ∈ before, p.block < W.heap.size := fun p hp => hW.lt p hp
  have hW' := hW
  obtain ⟨p, q, hA, hV, rfl, hfz, hnd⟩ := hW
  rw [hv] at hV
  obtain ⟨rfl, rfl⟩ := trodVars_none hV
  have hA' := trodAll_below hE hp hA fun x hx => hlt x (by simpa using hx)
  refine ⟨ds, [], p ++ [], [], p, [], hW', ?_, ?_, ?_, ?_, fun h => by cases h⟩
  · rw [hr, List.append_nil, hs]
    exact trodAll_mk1 (shut_bool Try.underlying4 true)
  · rw [List.append_nil, hs]; exact hA'
  · rw [hv, List.append_nil, hs]; rfl
  · exact World.keptBut_mono (fun x hx => hx) (Below.frame hE _)
end
set_option maxRecDepth 100000 in
theorem law_lift {fn : Func} {f : FuncId} {s : ChangeSpec} (hfn : Try.prog.funcs[f]? = some fn) (hv : s.vars = []) (hr : fn.resultTypes = #[4])
    (hp : ∀ t ∈ fn.params.toList, Try.prog.readableRec t = true ∧ t < Try.prog.types.size) (hi : Try.prog.inits.idxOf? f = none)
    {os : Os} (started : os.Started) {H : Type} {enc : TypeId × Value → H}
    (hs : ∀ ds : List (DataW H), ds.length = fn.params.size → s.fn H ds = { results := [.lit (.bool true)], args := ds })
    (witness : ∃ (w : World) (tape : Tape) (i : Input), w.os = os ∧ (w.forCall tape i).Shaped Try.prog ∧ i.vars = [] ∧ Input.okWide Try.prog (w.forCall tape i) .any w.heap.size f i ∧
      s.pre6 enc Try.prog fn [] false (w.forCall tape i).memory i.args ∧ ({} : Assume).holds Try.prog (lone (Frame.enter Try.prog f i.args .normal) [] (w.forCall tape i)))
    (walk : ∀ (W : World) (args : Array Value) (ds : List (DataW H)) (p : List MemPlace), DataW.TrodAll enc Try.prog W 0 (fun _ => true) true fn.params.toList args.toList ds p →
      (∀ x ∈ DataW.weightsEach Try.prog fn.params.toList ds, x ≤ 140737488351232) →
      (∃ base : Nat, ∀ (j : Nat) t v, fn.params[j]? = some t → args[j]? = some v → Value.okWide Try.prog W .any base t v) → Calls Try.prog f args W (Makes (fun _ u => u = .bool true) W)) :
    ReturnsInHanded {} Try.checked os f .any (s.pre6 enc Try.prog fn [] false) (s.post enc Try.prog fn false true false false) := by
  refine returnsInHanded_of_change_sized (C := Try.checked) own_knob started hi hfn witness ?_
  intro W base args ds gs before hval hW _ hweights _
  have hW' := hW
  obtain ⟨p, q, hA, hV, rfl, hfz, hnd⟩ := hW
  rw [hv] at hV
  obtain ⟨rfl, rfl⟩ := trodVars_none hV
  have hlen : ds.length = fn.params.size := by
    have : ∀ {ts : List TypeId} {vs : List Value} {ds : List (DataW H)} {ps : List MemPlace}, DataW.TrodAll enc Try.prog W 0 (fun _ => true) true ts vs ds ps → ds.length = ts.length := by
      intro ts
      induction ts with
      | nil => intro vs ds ps h; match vs, ds, h with | [], [], _ => rfl
      | cons t ts ih => intro vs ds ps h; match vs, ds, h with | v :: vs, d :: ds, ⟨_, _, _, h2, _⟩ => simp [ih h2]
    simpa using this hA
  refine (walk W args ds p hA (fun x hx => ?_) ⟨base, hval⟩).mono fun e W' h => ?_
  · have e : s.plain.varTypes Try.prog = [] := by simp [DataSpec.varTypes, ChangeSpec.plain, hv]
    have hw : (DataW.weightsEach Try.prog (fn.params.toList ++ s.plain.varTypes Try.prog) (ds ++ [])).all (· ≤ reachBytes) = true := hweights
    rw [e, List.append_nil, List.append_nil, List.all_eq_true] at hw
    exact of_decide_eq_true (hw x hx)
  · obtain ⟨v, rfl, rfl, hE⟩ := h
    exact ⟨_, rfl, law_post hv hr hp hW' (hs ds hlen) hE⟩
end Go.Smd
end
