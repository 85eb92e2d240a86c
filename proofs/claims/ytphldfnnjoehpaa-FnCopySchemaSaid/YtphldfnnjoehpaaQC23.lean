/- Part 23 of the proof: Se. -/
import Derived.Test.YtphldfnnjoehpaaQC22
set_option linter.unusedVariables false
section
set_option linter.unusedSimpArgs false
set_option maxRecDepth 100000
set_option maxHeartbeats 8000000
namespace Go.Smd
open Go.RowKit Go.Proofs
@[simp ↓] theorem binA_own {P : Program} {op : BinOp} {T : TypeId} {ox oy : Operand} {i o : Nat} : binA P op T ox oy (.c (.own i o)) (.c (.d (.v (.pointer none)))) = ptnA op (P.ptrT T) := by
  simp only [binA, ptnA, Go.Program.ptrT]
  cases h : P.underlying T with
  | none => cases op <;> rfl
  | some d => cases d <;> cases op <;> rfl
structure TD where
  nm : ByteArray
  a : AT
def tdD (t : TD) : List D := dS t.nm :: atD t.a
def tsD (t : TD) : List D := dS t.nm :: saD t.a
def nTD (t : TD) : TD := ⟨t.nm, nA t.a⟩
abbrev dTDs (l : List TD) : D := .sl 55 (l.map tdD)
abbrev dTSs (l : List TD) : D := .sl 177 (l.map tsD)
@[simp] theorem tdD_length (t : TD) : (tdD t).length = 4 := by simp [tdD]
@[simp] theorem tsD_length (t : TD) : (tsD t).length = 4 := by obtain ⟨p, q, r, h⟩ := saD_three t.a; simp [tsD, h]
@[simp] theorem tdD_take (t : TD) : (tdD t).take 4 = tdD t := List.take_of_length_le (by simp)
@[simp] theorem tsD_take (t : TD) : (tsD t).take 4 = tsD t := List.take_of_length_le (by simp)
theorem tdD_x (nm sc : ByteArray) (ls : List LT) (ms : List MT) : tdD ⟨nm, .mk sc ls ms⟩ = [dS nm, dS sc, dLTs ls, dMTs ms] := by simp only [tdD, atD_x]
abbrev cSch (x : Cl) : Ow := .cells [x] 174
theorem toSchema_w (l : List TD) (hl : l.length * 80 ≤ 140737488351232) (hg : ∀ t ∈ l, gA t.a) (hne : l ≠ []) :
    AProc Try.prog 67 [.agg [.d (dTDs l)]] [] (fun r own' => r = .c (.own 7 0) ∧ own' = [(27, .arr l.length 177 (l.map tsD)), (7, cSch (.gs 27 l.length)), (1, .cells [.d (dTDs l)] 51)]) := by
  have b1 : l.length ≤ 9223372036854775807 := by omega
  refine aproc_ex [] Try.func67 (by kernel_rfl) rfl Try.ntmps67 Try.results67 (Nat.le_of_ble_eq_true (by kernel_rfl)) ?_; intro hok w0 S0
  (repeat' (first
                                                            | (with_reducible refine br_d (fun _ => ?_) (fun _ => ?_))
                                                            | (with_reducible refine br_i (fun _ => ?_) (fun _ => ?_))
                                                            | ((with_reducible apply nd_next); (case hx => simp -dsimp [b1]; first | done | with_reducible rfl); (case hid => simp -dsimp [b1]; first | done | with_reducible rfl | exact ⟨rfl, rfl, rfl⟩ | exact ⟨rfl, rfl⟩); (case' h1 => intro _ _ _); (case' h0 => intro _))
                                                            | ((with_reducible apply nd_entry); (case hx => simp -dsimp [b1]; first | done | with_reducible rfl); (case hid => simp -dsimp [b1]; first | done | with_reducible rfl | exact ⟨rfl, rfl, rfl⟩ | exact ⟨rfl, rfl⟩))
                                                            | ((with_reducible apply nd_range); (case hx => simp -dsimp [b1]; with_reducible rfl); (case hT => simp -dsimp [b1]); (case hnd => assumption); (case hz => simp -dsimp [b1]))
                                                            | (with_reducible refine dn_i follows_any (by kernel_rfl) ?_)
                                                            | (with_reducible exact done_eq rfl)
                                                            | (simp -dsimp [b1]))); (all_goals try with_reducible refine done_eq ?_)
  refine ex_loop (fun i : Nat => if i = 0 then ⟨[(3, .c (.own 7 0)), (9, .c (.d (dTDs l))), (10, aI l.length), (11, aI 0)], [(7, cSch (.d (.v (.slice none 0 0)))), (1, .cells [.d (dTDs l)] 51)]⟩
      else ⟨[(3, .c (.own 7 0)), (9, .c (.d (dTDs l))), (10, aI l.length), (11, aI i)], [(27, .arr i 177 ((l.map tsD).take i)), (7, cSch (.gs 27 i)), (1, .cells [.d (dTDs l)] 51)]⟩) (fun i => i ≤ l.length) (fun i => l.length - i) 0 ?_ (Nat.zero_le _) ?_
  · rw [if_pos rfl]
    exact Weak.same (by simp -dsimp) (by simp -dsimp) (by first | rfl | (simp [closedSt, Av.ids, Ow.ids, Cl.ids, Go.Smd.keys]; done))
  · rintro i hi K hK
    have hpos : 0 < l.length := by cases l with | nil => exact absurd rfl hne | cons _ _ => simp
    by_cases hlt : i < l.length
    · have hw : IntKind.wrap .i64 ((i : Int) + 1) = ((i + 1 : Nat) : Int) := by rw [wrap_i64] <;> omega
      obtain ⟨nm, sc, ls, ms, hli⟩ : ∃ nm sc ls ms, l[i] = ⟨nm, .mk sc ls ms⟩ := by
        obtain ⟨nm, ⟨sc, ls, ms⟩⟩ := l[i]
        exact ⟨_, _, _, _, rfl⟩
      have he : tdD l[i] = [dS nm, dS sc, dLTs ls, dMTs ms] := by rw [hli, tdD_x]
      have hc := (atom_a _ (hg _ (List.getElem_mem hlt))).1
      rw [hli] at hc
      unfold CAtom at hc
      obtain ⟨p, q, r, e⟩ := saD_three (.mk sc ls ms)
      rw [e, atD_x] at hc
      simp only [cls_cons, cls_nil] at hc
      have et : tsD l[i] = [dS nm, p, q, r] := by rw [hli]; simp only [tsD, e]
      have kT : (l.map tsD).take (i + 1) = (l.map tsD).take i ++ [[dS nm, p, q, r]] := by
        rw [List.take_succ_eq_append_getElem (by simpa using hlt)]; simp [et]
      by_cases h0 : i = 0
      · subst h0
        rw [if_pos rfl]
        simp only [List.take_zero, List.nil_append, Nat.zero_add] at kT
        (repeat' (first
                                                            | (with_reducible refine br_d (fun _ => ?_) (fun _ => ?_))
                                                            | (with_reducible refine br_i (fun _ => ?_) (fun _ => ?_))
                                                            | ((with_reducible apply nd_next); (case hx => simp -dsimp [b1, hlt, he]; first | done | with_reducible rfl); (case hid => simp -dsimp [b1, hlt, he]; first | done | with_reducible rfl | exact ⟨rfl, rfl, rfl⟩ | exact ⟨rfl, rfl⟩); (case' h1 => intro _ _ _); (case' h0 => intro _))
                                                            | ((with_reducible apply nd_entry); (case hx => simp -dsimp [b1, hlt, he]; first | done | with_reducible rfl); (case hid => simp -dsimp [b1, hlt, he]; first | done | with_reducible rfl | exact ⟨rfl, rfl, rfl⟩ | exact ⟨rfl, rfl⟩))
                                                            | ((with_reducible apply nd_range); (case hx => simp -dsimp [b1, hlt, he]; with_reducible rfl); (case hT => simp -dsimp [b1, hlt, he]); (case hnd => assumption); (case hz => simp -dsimp [b1, hlt, he]))
                                                            | (with_reducible refine dn_i follows_any (by kernel_rfl) ?_)
                                                            | (with_reducible exact done_eq rfl)
                                                            | (simp -dsimp [b1, hlt, he]))); (all_goals try with_reducible refine done_eq ?_)
        refine exD_p ?_
        refine aw_drawn_n follows_any [[], [], [1], [1, 2], [1, 2, 3], [], [5], [], [7], [7, 8], [5, 6, 7, 8, 9], [5, 6, 7, 8, 9, 10], [1, 2, 3, 4, 5, 6, 7, 8, 9, 10, 11], [0, 1, 2, 3, 4, 5, 6, 7, 8, 9, 10, 11, 12], [0, 1, 2, 3, 4, 5, 6, 7, 8, 9, 10, 11, 12, 13], [0, 1, 2, 3, 4, 5, 6, 7, 8, 9, 10, 11, 12, 13, 14]] [0, 1, 2, 3, 4, 5, 6, 7, 8, 9, 10, 11, 12, 13, 14, 15] [11, 12, 15] [([], ⟨[(15, ?m15u1), (16, ?m16u1), (17, ?m17u1), (18, ?m18u1), (19, ?m19u1), (20, ?m20u1), (21, ?m21u1), (22, ?m22u1), (23, ?m23u1), (24, ?m24u1), (25, ?m25u1), (26, ?m26u1), (27, ?m27u1), (28, ?m28u1), (29, ?m29u1)], ?bu1, ?o0u1⟩), ([11], ⟨[(15, ?m15u1), (16, ?m16u1), (17, ?m17u1), (18, ?m18u1), (19, ?m19u1), (20, ?m20u1), (21, ?m21u1), (22, ?m22u1), (23, ?m23u1), (24, ?m24u1), (25, ?m25u1), (26, ?m26u1), (27, ?m27u1), (28, ?m28u1), (29, ?m29u1)], ?bu1, ?o1u1⟩), ([11, 12], ⟨[(15, ?m15u1), (16, ?m16u1), (17, ?m17u1), (18, ?m18u1), (19, ?m19u1), (20, ?m20u1), (21, ?m21u1), (22, ?m22u1), (23, ?m23u1), (24, ?m24u1), (25, ?m25u1), (26, ?m26u1), (27, ?m27u1), (28, ?m28u1), (29, ?m29u1)], ?bu1, ?o2u1⟩), ([11, 12, 15], ⟨[(15, ?m15u1), (16, ?m16u1), (17, ?m17u1), (18, ?m18u1), (19, ?m19u1), (20, ?m20u1), (21, ?m21u1), (22, ?m22u1), (23, ?m23u1), (24, ?m24u1), (25, ?m25u1), (26, ?m26u1), (27, ?m27u1), (28, ?m28u1), (29, ?m29u1)], ?bu1, ?o3u1⟩)] ?hoku1 rfl rfl ?hbu1 ?hou1 ?hstu1 ?hku1
        case' hbu1 => rfl
        case' hou1 => rfl
        case' hstu1 => refine ⟨⟨?v0u1, ?s0u1⟩, ⟨⟨?v1u1, ?s1u1⟩, ⟨⟨?v2u1, ?s2u1⟩, ⟨⟨?v3u1, ?s3u1⟩, True.intro⟩⟩⟩⟩
        case v0u1 =>
          refine ⟨.inr ⟨_, rfl, effN_self (eff_v rfl rfl (by simp -dsimp [valT, b1, hlt, he, toDs] <;> with_reducible rfl))⟩, ?_⟩
          refine ⟨.inr ⟨_, rfl, effN_self (eff_v rfl rfl (by simp -dsimp [valT, b1, hlt, he, toDs] <;> with_reducible rfl))⟩, ?_⟩
          refine ⟨.inr ⟨_, rfl, effN_self (eff_v rfl rfl (by simp -dsimp [valT, b1, hlt, he, toDs] <;> with_reducible rfl))⟩, ?_⟩
          refine ⟨.inr ⟨_, rfl, effN_self (eff_v rfl rfl (by simp -dsimp [valT, b1, hlt, he, toDs] <;> with_reducible rfl))⟩, ?_⟩
          refine ⟨.inr ⟨_, rfl, effN_self (eff_v rfl rfl (by simp -dsimp [valT, b1, hlt, he, toDs] <;> with_reducible rfl))⟩, ?_⟩
          refine ⟨.inr ⟨_, rfl, effN_self (eff_v rfl rfl (by simp -dsimp [valT, b1, hlt, he, toDs] <;> with_reducible rfl))⟩, ?_⟩
          refine ⟨.inr ⟨_, rfl, effN_self (eff_v rfl rfl (by simp -dsimp [valT, b1, hlt, he, toDs] <;> with_reducible rfl))⟩, ?_⟩
          refine ⟨.inr ⟨_, rfl, effN_self (eff_v rfl rfl (by simp -dsimp [valT, b1, hlt, he, toDs] <;> with_reducible rfl))⟩, ?_⟩
          refine ⟨.inr ⟨_, rfl, effN_self (eff_v rfl rfl (by simp -dsimp [valT, b1, hlt, he, toDs] <;> with_reducible rfl))⟩, ?_⟩
          refine ⟨.inr ⟨_, rfl, effN_self (eff_c (d := 24) (hc) rfl rfl rfl (by simp -dsimp [valT, b1, hlt, he, toDs] <;> (first | done | rfl | exact ⟨rfl, rfl⟩ | exact ⟨rfl, rfl, rfl⟩)) (by simp -dsimp [valT, b1, hlt, he, toDs]) (by simp -dsimp [valT, b1, hlt, he, toDs] <;> with_reducible rfl))⟩, ?_⟩
          refine ⟨.inr ⟨_, rfl, effN_self (eff_v rfl rfl (by simp -dsimp [valT, b1, hlt, he, toDs] <;> with_reducible rfl))⟩, ?_⟩
          refine ⟨.inl (by kernel_rfl), ?_⟩
          refine ⟨.inl (by kernel_rfl), ?_⟩
          refine ⟨.inl (by kernel_rfl), ?_⟩
          refine ⟨.inl (by kernel_rfl), ?_⟩
          refine ⟨.inl (by kernel_rfl), ?_⟩
          exact True.intro
        case s0u1 =>
          refine ⟨.inr ⟨_, _, rfl, rfl, effN_of (eff_w (hdk := rfl) (hW := rfl) (hq := by simp -dsimp [valT, b1, hlt, he, toDs] <;> (first | done | rfl | exact ⟨rfl, rfl⟩ | exact ⟨rfl, rfl, rfl⟩)) (hoo := rfl) (hv := by simp -dsimp [valT, b1, hlt, he, toDs] <;> with_reducible rfl)) (by simp -dsimp [valT, canonO, insO, b1, hlt, he, toDs] <;> with_reducible rfl)⟩, ?_⟩
          refine ⟨.inl (by kernel_rfl), ?_⟩
          refine ⟨.inl (by kernel_rfl), ?_⟩
          exact True.intro
        case v1u1 =>
          refine ⟨.inr ⟨_, rfl, effN_self (eff_v rfl rfl (by simp -dsimp [valT, b1, hlt, he, toDs] <;> with_reducible rfl))⟩, ?_⟩
          refine ⟨.inr ⟨_, rfl, effN_self (eff_v rfl rfl (by simp -dsimp [valT, b1, hlt, he, toDs] <;> with_reducible rfl))⟩, ?_⟩
          refine ⟨.inr ⟨_, rfl, effN_self (eff_v rfl rfl (by simp -dsimp [valT, b1, hlt, he, toDs] <;> with_reducible rfl))⟩, ?_⟩
          refine ⟨.inr ⟨_, rfl, effN_self (eff_v rfl rfl (by simp -dsimp [valT, b1, hlt, he, toDs] <;> with_reducible rfl))⟩, ?_⟩
          refine ⟨.inr ⟨_, rfl, effN_self (eff_v rfl rfl (by simp -dsimp [valT, b1, hlt, he, toDs] <;> with_reducible rfl))⟩, ?_⟩
          refine ⟨.inl (by kernel_rfl), ?_⟩
          refine ⟨.inl (by kernel_rfl), ?_⟩
          refine ⟨.inl (by kernel_rfl), ?_⟩
          refine ⟨.inl (by kernel_rfl), ?_⟩
          refine ⟨.inl (by kernel_rfl), ?_⟩
          refine ⟨.inl (by kernel_rfl), ?_⟩
          refine ⟨.inl (by kernel_rfl), ?_⟩
          refine ⟨.inl (by kernel_rfl), ?_⟩
          refine ⟨.inl (by kernel_rfl), ?_⟩
          refine ⟨.inl (by kernel_rfl), ?_⟩
          refine ⟨.inl (by kernel_rfl), ?_⟩
          exact True.intro
        case s1u1 =>
          refine ⟨.inl (by kernel_rfl), ?_⟩
          refine ⟨.inr ⟨_, _, rfl, rfl, effN_of (eff_w (hdk := rfl) (hW := rfl) (hq := by simp -dsimp [valT, b1, hlt, he, toDs] <;> (first | done | rfl | exact ⟨rfl, rfl⟩ | exact ⟨rfl, rfl, rfl⟩)) (hoo := rfl) (hv := by simp -dsimp [valT, b1, hlt, he, toDs] <;> with_reducible rfl)) (by simp -dsimp [valT, canonO, insO, b1, hlt, he, toDs] <;> with_reducible rfl)⟩, ?_⟩
          refine ⟨.inl (by kernel_rfl), ?_⟩
          exact True.intro
        case v2u1 =>
          refine ⟨.inr ⟨_, rfl, effN_self (eff_v rfl rfl (by simp -dsimp [valT, b1, hlt, he, toDs] <;> with_reducible rfl))⟩, ?_⟩
          refine ⟨.inl (by kernel_rfl), ?_⟩
          refine ⟨.inl (by kernel_rfl), ?_⟩
          refine ⟨.inl (by kernel_rfl), ?_⟩
          refine ⟨.inl (by kernel_rfl), ?_⟩
          refine ⟨.inl (by kernel_rfl), ?_⟩
          refine ⟨.inl (by kernel_rfl), ?_⟩
          refine ⟨.inl (by kernel_rfl), ?_⟩
          refine ⟨.inl (by kernel_rfl), ?_⟩
          refine ⟨.inl (by kernel_rfl), ?_⟩
          refine ⟨.inl (by kernel_rfl), ?_⟩
          refine ⟨.inl (by kernel_rfl), ?_⟩
          refine ⟨.inl (by kernel_rfl), ?_⟩
          refine ⟨.inr ⟨_, rfl, effN_self (eff_v rfl rfl (by simp -dsimp [valT, b1, hlt, he, toDs] <;> with_reducible rfl))⟩, ?_⟩
          refine ⟨.inr ⟨_, rfl, effN_self (eff_v rfl rfl (by simp -dsimp [valT, b1, hlt, he, toDs] <;> with_reducible rfl))⟩, ?_⟩
          refine ⟨.inl (by kernel_rfl), ?_⟩
          exact True.intro
        case s2u1 =>
          refine ⟨.inl (by kernel_rfl), ?_⟩
          refine ⟨.inl (by kernel_rfl), ?_⟩
          refine ⟨.inr ⟨_, _, rfl, rfl, effN_of (eff_w (hdk := rfl) (hW := rfl) (hq := by simp -dsimp [valT, b1, hlt, he, toDs] <;> (first | done | rfl | exact ⟨rfl, rfl⟩ | exact ⟨rfl, rfl, rfl⟩)) (hoo := rfl) (hv := by simp -dsimp [valT, b1, hlt, he, toDs] <;> with_reducible rfl)) (by simp -dsimp [valT, canonO, insO, b1, hlt, he, toDs] <;> with_reducible rfl)⟩, ?_⟩
          exact True.intro
        case v3u1 =>
          refine ⟨.inl (by kernel_rfl), ?_⟩
          refine ⟨.inl (by kernel_rfl), ?_⟩
          refine ⟨.inl (by kernel_rfl), ?_⟩
          refine ⟨.inl (by kernel_rfl), ?_⟩
          refine ⟨.inl (by kernel_rfl), ?_⟩
          refine ⟨.inl (by kernel_rfl), ?_⟩
          refine ⟨.inl (by kernel_rfl), ?_⟩
          refine ⟨.inl (by kernel_rfl), ?_⟩
          refine ⟨.inl (by kernel_rfl), ?_⟩
          refine ⟨.inl (by kernel_rfl), ?_⟩
          refine ⟨.inl (by kernel_rfl), ?_⟩
          refine ⟨.inl (by kernel_rfl), ?_⟩
          refine ⟨.inl (by kernel_rfl), ?_⟩
          refine ⟨.inl (by kernel_rfl), ?_⟩
          refine ⟨.inl (by kernel_rfl), ?_⟩
          refine ⟨.inl (by kernel_rfl), ?_⟩
          exact True.intro
        case s3u1 =>
          refine ⟨.inl (by kernel_rfl), ?_⟩
          refine ⟨.inl (by kernel_rfl), ?_⟩
          refine ⟨.inl (by kernel_rfl), ?_⟩
          exact True.intro
        case hoku1 => kernel_rfl
        refine ⟨rfl, ?_⟩
        (repeat' (first
                                                            | (with_reducible refine br_d (fun _ => ?_) (fun _ => ?_))
                                                            | (with_reducible refine br_i (fun _ => ?_) (fun _ => ?_))
                                                            | ((with_reducible apply nd_next); (case hx => simp -dsimp [w1]; first | done | with_reducible rfl); (case hid => simp -dsimp [w1]; first | done | with_reducible rfl | exact ⟨rfl, rfl, rfl⟩ | exact ⟨rfl, rfl⟩); (case' h1 => intro _ _ _); (case' h0 => intro _))
                                                            | ((with_reducible apply nd_entry); (case hx => simp -dsimp [w1]; first | done | with_reducible rfl); (case hid => simp -dsimp [w1]; first | done | with_reducible rfl | exact ⟨rfl, rfl, rfl⟩ | exact ⟨rfl, rfl⟩))
                                                            | ((with_reducible apply nd_range); (case hx => simp -dsimp [w1]; with_reducible rfl); (case hT => simp -dsimp [w1]); (case hnd => assumption); (case hz => simp -dsimp [w1]))
                                                            | (with_reducible refine dn_i follows_any (by kernel_rfl) ?_)
                                                            | (with_reducible exact done_eq rfl)
                                                            | (simp -dsimp [w1]))); (all_goals try with_reducible refine done_eq ?_)
        refine hK _ 1 ?_ (by omega) (by omega)
        rw [if_neg (by decide), kT]
        exact Weak.same (by simp -dsimp) (by simp -dsimp) (by first | rfl | (simp [closedSt, Av.ids, Ow.ids, Cl.ids, Go.Smd.keys]; done))
      · rw [if_neg h0]
        obtain ⟨R, hR⟩ : ∃ R, R = (l.map tsD).take i := ⟨_, rfl⟩
        have hRl : R.length = i := by rw [hR]; simp; omega
        rw [← hR] at kT ⊢
        have hb : (i + 1) * 40 ≤ 140737488351232 := by omega
        (repeat' (first
                                                            | (with_reducible refine br_d (fun _ => ?_) (fun _ => ?_))
                                                            | (with_reducible refine br_i (fun _ => ?_) (fun _ => ?_))
                                                            | ((with_reducible apply nd_next); (case hx => simp -dsimp [b1, hlt, he, hw]; first | done | with_reducible rfl); (case hid => simp -dsimp [b1, hlt, he, hw]; first | done | with_reducible rfl | exact ⟨rfl, rfl, rfl⟩ | exact ⟨rfl, rfl⟩); (case' h1 => intro _ _ _); (case' h0 => intro _))
                                                            | ((with_reducible apply nd_entry); (case hx => simp -dsimp [b1, hlt, he, hw]; first | done | with_reducible rfl); (case hid => simp -dsimp [b1, hlt, he, hw]; first | done | with_reducible rfl | exact ⟨rfl, rfl, rfl⟩ | exact ⟨rfl, rfl⟩))
                                                            | ((with_reducible apply nd_range); (case hx => simp -dsimp [b1, hlt, he, hw]; with_reducible rfl); (case hT => simp -dsimp [b1, hlt, he, hw]); (case hnd => assumption); (case hz => simp -dsimp [b1, hlt, he, hw]))
                                                            | (with_reducible refine dn_i follows_any (by kernel_rfl) ?_)
                                                            | (with_reducible exact done_eq rfl)
                                                            | (simp -dsimp [b1, hlt, he, hw]))); (all_goals try with_reducible refine done_eq ?_)
        refine exD_p ?_
        refine aw_drawn_n follows_any [[], [], [1], [1, 2], [1, 2, 3], [], [5], [], [7], [7, 8], [5, 6, 7, 8, 9], [5, 6, 7, 8, 9, 10], [1, 2, 3, 4, 5, 6, 7, 8, 9, 10, 11], [0, 1, 2, 3, 4, 5, 6, 7, 8, 9, 10, 11, 12], [0, 1, 2, 3, 4, 5, 6, 7, 8, 9, 10, 11, 12, 13], [0, 1, 2, 3, 4, 5, 6, 7, 8, 9, 10, 11, 12, 13, 14]] [0, 1, 2, 3, 4, 5, 6, 7, 8, 9, 10, 11, 12, 13, 14, 15] [11, 12, 15] [([], ⟨[(15, ?m15u2), (16, ?m16u2), (17, ?m17u2), (18, ?m18u2), (19, ?m19u2), (20, ?m20u2), (21, ?m21u2), (22, ?m22u2), (23, ?m23u2), (24, ?m24u2), (25, ?m25u2), (26, ?m26u2), (27, ?m27u2), (28, ?m28u2), (29, ?m29u2)], ?bu2, ?o0u2⟩), ([11], ⟨[(15, ?m15u2), (16, ?m16u2), (17, ?m17u2), (18, ?m18u2), (19, ?m19u2), (20, ?m20u2), (21, ?m21u2), (22, ?m22u2), (23, ?m23u2), (24, ?m24u2), (25, ?m25u2), (26, ?m26u2), (27, ?m27u2), (28, ?m28u2), (29, ?m29u2)], ?bu2, ?o1u2⟩), ([11, 12], ⟨[(15, ?m15u2), (16, ?m16u2), (17, ?m17u2), (18, ?m18u2), (19, ?m19u2), (20, ?m20u2), (21, ?m21u2), (22, ?m22u2), (23, ?m23u2), (24, ?m24u2), (25, ?m25u2), (26, ?m26u2), (27, ?m27u2), (28, ?m28u2), (29, ?m29u2)], ?bu2, ?o2u2⟩), ([11, 12, 15], ⟨[(15, ?m15u2), (16, ?m16u2), (17, ?m17u2), (18, ?m18u2), (19, ?m19u2), (20, ?m20u2), (21, ?m21u2), (22, ?m22u2), (23, ?m23u2), (24, ?m24u2), (25, ?m25u2), (26, ?m26u2), (27, ?m27u2), (28, ?m28u2), (29, ?m29u2)], ?bu2, ?o3u2⟩)] ?hoku2 rfl rfl ?hbu2 ?hou2 ?hstu2 ?hku2
        case' hbu2 => rfl
        case' hou2 => rfl
        case' hstu2 => refine ⟨⟨?v0u2, ?s0u2⟩, ⟨⟨?v1u2, ?s1u2⟩, ⟨⟨?v2u2, ?s2u2⟩, ⟨⟨?v3u2, ?s3u2⟩, True.intro⟩⟩⟩⟩
        case v0u2 =>
          refine ⟨.inr ⟨_, rfl, effN_self (eff_v rfl rfl (by simp -dsimp [valT, b1, hlt, he, toDs, hRl, hb] <;> with_reducible rfl))⟩, ?_⟩
          refine ⟨.inr ⟨_, rfl, effN_self (eff_v rfl rfl (by simp -dsimp [valT, b1, hlt, he, toDs, hRl, hb] <;> with_reducible rfl))⟩, ?_⟩
          refine ⟨.inr ⟨_, rfl, effN_self (eff_v rfl rfl (by simp -dsimp [valT, b1, hlt, he, toDs, hRl, hb] <;> with_reducible rfl))⟩, ?_⟩
          refine ⟨.inr ⟨_, rfl, effN_self (eff_v rfl rfl (by simp -dsimp [valT, b1, hlt, he, toDs, hRl, hb] <;> with_reducible rfl))⟩, ?_⟩
          refine ⟨.inr ⟨_, rfl, effN_self (eff_v rfl rfl (by simp -dsimp [valT, b1, hlt, he, toDs, hRl, hb] <;> with_reducible rfl))⟩, ?_⟩
          refine ⟨.inr ⟨_, rfl, effN_self (eff_v rfl rfl (by simp -dsimp [valT, b1, hlt, he, toDs, hRl, hb] <;> with_reducible rfl))⟩, ?_⟩
          refine ⟨.inr ⟨_, rfl, effN_self (eff_v rfl rfl (by simp -dsimp [valT, b1, hlt, he, toDs, hRl, hb] <;> with_reducible rfl))⟩, ?_⟩
          refine ⟨.inr ⟨_, rfl, effN_self (eff_v rfl rfl (by simp -dsimp [valT, b1, hlt, he, toDs, hRl, hb] <;> with_reducible rfl))⟩, ?_⟩
          refine ⟨.inr ⟨_, rfl, effN_self (eff_v rfl rfl (by simp -dsimp [valT, b1, hlt, he, toDs, hRl, hb] <;> with_reducible rfl))⟩, ?_⟩
          refine ⟨.inr ⟨_, rfl, effN_self (eff_c (d := 24) (hc) rfl rfl rfl (by simp -dsimp [valT, b1, hlt, he, toDs, hRl, hb] <;> (first | done | rfl | exact ⟨rfl, rfl⟩ | exact ⟨rfl, rfl, rfl⟩)) (by simp -dsimp [valT, b1, hlt, he, toDs, hRl, hb]) (by simp -dsimp [valT, b1, hlt, he, toDs, hRl, hb] <;> with_reducible rfl))⟩, ?_⟩
          refine ⟨.inr ⟨_, rfl, effN_self (eff_v rfl rfl (by simp -dsimp [valT, b1, hlt, he, toDs, hRl, hb] <;> with_reducible rfl))⟩, ?_⟩
          refine ⟨.inl (by kernel_rfl), ?_⟩
          refine ⟨.inl (by kernel_rfl), ?_⟩
          refine ⟨.inl (by kernel_rfl), ?_⟩
          refine ⟨.inl (by kernel_rfl), ?_⟩
          refine ⟨.inl (by kernel_rfl), ?_⟩
          exact True.intro
        case s0u2 =>
          refine ⟨.inr ⟨_, _, rfl, rfl, effN_of (eff_w (hdk := rfl) (hW := rfl) (hq := by simp -dsimp [valT, b1, hlt, he, toDs, hRl, hb] <;> (first | done | rfl | exact ⟨rfl, rfl⟩ | exact ⟨rfl, rfl, rfl⟩)) (hoo := rfl) (hv := by simp -dsimp [valT, b1, hlt, he, toDs, hRl, hb] <;> with_reducible rfl)) (by simp -dsimp [valT, canonO, insO, b1, hlt, he, toDs, hRl, hb] <;> with_reducible rfl)⟩, ?_⟩
          refine ⟨.inl (by kernel_rfl), ?_⟩
          refine ⟨.inl (by kernel_rfl), ?_⟩
          exact True.intro
        case v1u2 =>
          refine ⟨.inr ⟨_, rfl, effN_self (eff_v rfl rfl (by simp -dsimp [valT, b1, hlt, he, toDs, hRl, hb] <;> with_reducible rfl))⟩, ?_⟩
          refine ⟨.inr ⟨_, rfl, effN_self (eff_v rfl rfl (by simp -dsimp [valT, b1, hlt, he, toDs, hRl, hb] <;> with_reducible rfl))⟩, ?_⟩
          refine ⟨.inr ⟨_, rfl, effN_self (eff_v rfl rfl (by simp -dsimp [valT, b1, hlt, he, toDs, hRl, hb] <;> with_reducible rfl))⟩, ?_⟩
          refine ⟨.inr ⟨_, rfl, effN_self (eff_v rfl rfl (by simp -dsimp [valT, b1, hlt, he, toDs, hRl, hb] <;> with_reducible rfl))⟩, ?_⟩
          refine ⟨.inr ⟨_, rfl, effN_self (eff_v rfl rfl (by simp -dsimp [valT, b1, hlt, he, toDs, hRl, hb] <;> with_reducible rfl))⟩, ?_⟩
          refine ⟨.inl (by kernel_rfl), ?_⟩
          refine ⟨.inl (by kernel_rfl), ?_⟩
          refine ⟨.inl (by kernel_rfl), ?_⟩
          refine ⟨.inl (by kernel_rfl), ?_⟩
          refine ⟨.inl (by kernel_rfl), ?_⟩
          refine ⟨.inl (by kernel_rfl), ?_⟩
          refine ⟨.inl (by kernel_rfl), ?_⟩
          refine ⟨.inl (by kernel_rfl), ?_⟩
          refine ⟨.inl (by kernel_rfl), ?_⟩
          refine ⟨.inl (by kernel_rfl), ?_⟩
          refine ⟨.inl (by kernel_rfl), ?_⟩
          exact True.intro
        case s1u2 =>
          refine ⟨.inl (by kernel_rfl), ?_⟩
          refine ⟨.inr ⟨_, _, rfl, rfl, effN_of (eff_w (hdk := rfl) (hW := rfl) (hq := by simp -dsimp [valT, b1, hlt, he, toDs, hRl, hb] <;> (first | done | rfl | exact ⟨rfl, rfl⟩ | exact ⟨rfl, rfl, rfl⟩)) (hoo := rfl) (hv := by simp -dsimp [valT, b1, hlt, he, toDs, hRl, hb] <;> with_reducible rfl)) (by simp -dsimp [valT, canonO, insO, b1, hlt, he, toDs, hRl, hb] <;> with_reducible rfl)⟩, ?_⟩
          refine ⟨.inl (by kernel_rfl), ?_⟩
          exact True.intro
        case v2u2 =>
          refine ⟨.inr ⟨_, rfl, effN_self (eff_v rfl rfl (by simp -dsimp [valT, b1, hlt, he, toDs, hRl, hb] <;> with_reducible rfl))⟩, ?_⟩
          refine ⟨.inl (by kernel_rfl), ?_⟩
          refine ⟨.inl (by kernel_rfl), ?_⟩
          refine ⟨.inl (by kernel_rfl), ?_⟩
          refine ⟨.inl (by kernel_rfl), ?_⟩
          refine ⟨.inl (by kernel_rfl), ?_⟩
          refine ⟨.inl (by kernel_rfl), ?_⟩
          refine ⟨.inl (by kernel_rfl), ?_⟩
          refine ⟨.inl (by kernel_rfl), ?_⟩
          refine ⟨.inl (by kernel_rfl), ?_⟩
          refine ⟨.inl (by kernel_rfl), ?_⟩
          refine ⟨.inl (by kernel_rfl), ?_⟩
          refine ⟨.inl (by kernel_rfl), ?_⟩
          refine ⟨.inr ⟨_, rfl, effN_self (eff_v rfl rfl (by simp -dsimp [valT, b1, hlt, he, toDs, hRl, hb] <;> with_reducible rfl))⟩, ?_⟩
          refine ⟨.inr ⟨_, rfl, effN_self (eff_v rfl rfl (by simp -dsimp [valT, b1, hlt, he, toDs, hRl, hb] <;> with_reducible rfl))⟩, ?_⟩
          refine ⟨.inl (by kernel_rfl), ?_⟩
          exact True.intro
        case s2u2 =>
          refine ⟨.inl (by kernel_rfl), ?_⟩
          refine ⟨.inl (by kernel_rfl), ?_⟩
          refine ⟨.inr ⟨_, _, rfl, rfl, effN_of (eff_w (hdk := rfl) (hW := rfl) (hq := by simp -dsimp [valT, b1, hlt, he, toDs, hRl, hb] <;> (first | done | rfl | exact ⟨rfl, rfl⟩ | exact ⟨rfl, rfl, rfl⟩)) (hoo := rfl) (hv := by simp -dsimp [valT, b1, hlt, he, toDs, hRl, hb] <;> with_reducible rfl)) (by simp -dsimp [valT, canonO, insO, b1, hlt, he, toDs, hRl, hb] <;> with_reducible rfl)⟩, ?_⟩
          exact True.intro
        case v3u2 =>
          refine ⟨.inl (by kernel_rfl), ?_⟩
          refine ⟨.inl (by kernel_rfl), ?_⟩
          refine ⟨.inl (by kernel_rfl), ?_⟩
          refine ⟨.inl (by kernel_rfl), ?_⟩
          refine ⟨.inl (by kernel_rfl), ?_⟩
          refine ⟨.inl (by kernel_rfl), ?_⟩
          refine ⟨.inl (by kernel_rfl), ?_⟩
          refine ⟨.inl (by kernel_rfl), ?_⟩
          refine ⟨.inl (by kernel_rfl), ?_⟩
          refine ⟨.inl (by kernel_rfl), ?_⟩
          refine ⟨.inl (by kernel_rfl), ?_⟩
          refine ⟨.inl (by kernel_rfl), ?_⟩
          refine ⟨.inl (by kernel_rfl), ?_⟩
          refine ⟨.inl (by kernel_rfl), ?_⟩
          refine ⟨.inl (by kernel_rfl), ?_⟩
          refine ⟨.inl (by kernel_rfl), ?_⟩
          exact True.intro
        case s3u2 =>
          refine ⟨.inl (by kernel_rfl), ?_⟩
          refine ⟨.inl (by kernel_rfl), ?_⟩
          refine ⟨.inl (by kernel_rfl), ?_⟩
          exact True.intro
        case hoku2 => kernel_rfl
        refine ⟨rfl, ?_⟩
        (repeat' (first
                                                            | (with_reducible refine br_d (fun _ => ?_) (fun _ => ?_))
                                                            | (with_reducible refine br_i (fun _ => ?_) (fun _ => ?_))
                                                            | ((with_reducible apply nd_next); (case hx => simp -dsimp [hw]; first | done | with_reducible rfl); (case hid => simp -dsimp [hw]; first | done | with_reducible rfl | exact ⟨rfl, rfl, rfl⟩ | exact ⟨rfl, rfl⟩); (case' h1 => intro _ _ _); (case' h0 => intro _))
                                                            | ((with_reducible apply nd_entry); (case hx => simp -dsimp [hw]; first | done | with_reducible rfl); (case hid => simp -dsimp [hw]; first | done | with_reducible rfl | exact ⟨rfl, rfl, rfl⟩ | exact ⟨rfl, rfl⟩))
                                                            | ((with_reducible apply nd_range); (case hx => simp -dsimp [hw]; with_reducible rfl); (case hT => simp -dsimp [hw]); (case hnd => assumption); (case hz => simp -dsimp [hw]))
                                                            | (with_reducible refine dn_i follows_any (by kernel_rfl) ?_)
                                                            | (with_reducible exact done_eq rfl)
                                                            | (simp -dsimp [hw]))); (all_goals try with_reducible refine done_eq ?_)
        refine hK _ (i + 1) ?_ (by omega) (by omega)
        rw [if_neg (by omega), kT]
        exact Weak.same (by simp -dsimp) (by simp -dsimp) (by first | rfl | (simp [closedSt, Av.ids, Ow.ids, Cl.ids, Go.Smd.keys]; done))
    · have hi2 : i = l.length := by omega
      subst hi2
      rw [if_neg (by omega), List.take_of_length_le (by simp)]
      (repeat' (first
                                                            | (with_reducible refine br_d (fun _ => ?_) (fun _ => ?_))
                                                            | (with_reducible refine br_i (fun _ => ?_) (fun _ => ?_))
                                                            | ((with_reducible apply nd_next); (case hx => simp -dsimp [b1]; first | done | with_reducible rfl); (case hid => simp -dsimp [b1]; first | done | with_reducible rfl | exact ⟨rfl, rfl, rfl⟩ | exact ⟨rfl, rfl⟩); (case' h1 => intro _ _ _); (case' h0 => intro _))
                                                            | ((with_reducible apply nd_entry); (case hx => simp -dsimp [b1]; first | done | with_reducible rfl); (case hid => simp -dsimp [b1]; first | done | with_reducible rfl | exact ⟨rfl, rfl, rfl⟩ | exact ⟨rfl, rfl⟩))
                                                            | ((with_reducible apply nd_range); (case hx => simp -dsimp [b1]; with_reducible rfl); (case hT => simp -dsimp [b1]); (case hnd => assumption); (case hz => simp -dsimp [b1]))
                                                            | (with_reducible refine dn_i follows_any (by kernel_rfl) ?_)
                                                            | (with_reducible exact done_eq rfl)
                                                            | (simp -dsimp [b1]))); (all_goals try with_reducible refine done_eq ?_)
      exact ⟨rfl, rfl⟩
theorem toSchema_d (l : List TD) (hl : l.length * 80 ≤ 140737488351232) (hg : ∀ t ∈ l, gA t.a) (hne : l ≠ []) :
    ACalls Try.prog 67 [.agg [.d (dTDs l)]] (fun r => r = .c (.d (.pt [dTSs l]))) := by
  have b1 : l.length ≤ 9223372036854775807 := by omega
  refine acalls_ex [] Try.func67 (by kernel_rfl) rfl Try.ntmps67 Try.results67 (Nat.le_of_ble_eq_true (by kernel_rfl)) ?_; intro hok w0 S0
  clear hok
  (repeat' (first
                                                            | (with_reducible refine br_d (fun _ => ?_) (fun _ => ?_))
                                                            | (with_reducible refine br_i (fun _ => ?_) (fun _ => ?_))
                                                            | ((with_reducible apply nd_next); (case hx => simp -dsimp [b1]; first | done | with_reducible rfl); (case hid => simp -dsimp [b1]; first | done | with_reducible rfl | exact ⟨rfl, rfl, rfl⟩ | exact ⟨rfl, rfl⟩); (case' h1 => intro _ _ _); (case' h0 => intro _))
                                                            | ((with_reducible apply nd_entry); (case hx => simp -dsimp [b1]; first | done | with_reducible rfl); (case hid => simp -dsimp [b1]; first | done | with_reducible rfl | exact ⟨rfl, rfl, rfl⟩ | exact ⟨rfl, rfl⟩))
                                                            | ((with_reducible apply nd_range); (case hx => simp -dsimp [b1]; with_reducible rfl); (case hT => simp -dsimp [b1]); (case hnd => assumption); (case hz => simp -dsimp [b1]))
                                                            | (with_reducible refine dn_i follows_any (by kernel_rfl) ?_)
                                                            | (with_reducible exact done_eq rfl)
                                                            | (simp -dsimp [b1]))); (all_goals try with_reducible refine done_eq ?_)
  refine ex_loop (fun i : Nat => if i = 0 then ⟨[(3, .c (.own 7 0)), (9, .c (.d (dTDs l))), (10, aI l.length), (11, aI 0)], [(7, cSch (.d (.v (.slice none 0 0)))), (1, .cells [.d (dTDs l)] 51)]⟩
      else ⟨[(3, .c (.own 7 0)), (9, .c (.d (dTDs l))), (10, aI l.length), (11, aI i)], [(27, .arr i 177 ((l.map tsD).take i)), (7, cSch (.gs 27 i)), (1, .cells [.d (dTDs l)] 51)]⟩) (fun i => i ≤ l.length) (fun i => l.length - i) 0 ?_ (Nat.zero_le _) ?_
  · rw [if_pos rfl]
    exact Weak.same (by simp -dsimp) (by simp -dsimp) (by first | rfl | (simp [closedSt, Av.ids, Ow.ids, Cl.ids, Go.Smd.keys]; done))
  · rintro i hi K hK
    have hpos : 0 < l.length := by cases l with | nil => exact absurd rfl hne | cons _ _ => simp
    by_cases hlt : i < l.length
    · have hw : IntKind.wrap .i64 ((i : Int) + 1) = ((i + 1 : Nat) : Int) := by rw [wrap_i64] <;> omega
      obtain ⟨nm, sc, ls, ms, hli⟩ : ∃ nm sc ls ms, l[i] = ⟨nm, .mk sc ls ms⟩ := by
        obtain ⟨nm, ⟨sc, ls, ms⟩⟩ := l[i]
        exact ⟨_, _, _, _, rfl⟩
      have he : tdD l[i] = [dS nm, dS sc, dLTs ls, dMTs ms] := by rw [hli, tdD_x]
      have hc := (atom_a _ (hg _ (List.getElem_mem hlt))).1
      rw [hli] at hc
      unfold CAtom at hc
      obtain ⟨p, q, r, e⟩ := saD_three (.mk sc ls ms)
      rw [e, atD_x] at hc
      simp only [cls_cons, cls_nil] at hc
      have et : tsD l[i] = [dS nm, p, q, r] := by rw [hli]; simp only [tsD, e]
      have kT : (l.map tsD).take (i + 1) = (l.map tsD).take i ++ [[dS nm, p, q, r]] := by
        rw [List.take_succ_eq_append_getElem (by simpa using hlt)]; simp [et]
      by_cases h0 : i = 0
      · subst h0
        rw [if_pos rfl]
        simp only [List.take_zero, List.nil_append, Nat.zero_add] at kT
        (repeat' (first
                                                            | (with_reducible refine br_d (fun _ => ?_) (fun _ => ?_))
                                                            | (with_reducible refine br_i (fun _ => ?_) (fun _ => ?_))
                                                            | ((with_reducible apply nd_next); (case hx => simp -dsimp [b1, hlt, he]; first | done | with_reducible rfl); (case hid => simp -dsimp [b1, hlt, he]; first | done | with_reducible rfl | exact ⟨rfl, rfl, rfl⟩ | exact ⟨rfl, rfl⟩); (case' h1 => intro _ _ _); (case' h0 => intro _))
                                                            | ((with_reducible apply nd_entry); (case hx => simp -dsimp [b1, hlt, he]; first | done | with_reducible rfl); (case hid => simp -dsimp [b1, hlt, he]; first | done | with_reducible rfl | exact ⟨rfl, rfl, rfl⟩ | exact ⟨rfl, rfl⟩))
                                                            | ((with_reducible apply nd_range); (case hx => simp -dsimp [b1, hlt, he]; with_reducible rfl); (case hT => simp -dsimp [b1, hlt, he]); (case hnd => assumption); (case hz => simp -dsimp [b1, hlt, he]))
                                                            | (with_reducible refine dn_i follows_any (by kernel_rfl) ?_)
                                                            | (with_reducible exact done_eq rfl)
                                                            | (simp -dsimp [b1, hlt, he]))); (all_goals try with_reducible refine done_eq ?_)
        refine exD_p ?_
        refine aw_drawn_n follows_any [[], [], [1], [1, 2], [1, 2, 3], [], [5], [], [7], [7, 8], [5, 6, 7, 8, 9], [5, 6, 7, 8, 9, 10], [1, 2, 3, 4, 5, 6, 7, 8, 9, 10, 11], [0, 1, 2, 3, 4, 5, 6, 7, 8, 9, 10, 11, 12], [0, 1, 2, 3, 4, 5, 6, 7, 8, 9, 10, 11, 12, 13], [0, 1, 2, 3, 4, 5, 6, 7, 8, 9, 10, 11, 12, 13, 14]] [0, 1, 2, 3, 4, 5, 6, 7, 8, 9, 10, 11, 12, 13, 14, 15] [11, 12, 15] [([], ⟨[(15, ?m15u3), (16, ?m16u3), (17, ?m17u3), (18, ?m18u3), (19, ?m19u3), (20, ?m20u3), (21, ?m21u3), (22, ?m22u3), (23, ?m23u3), (24, ?m24u3), (25, ?m25u3), (26, ?m26u3), (27, ?m27u3), (28, ?m28u3), (29, ?m29u3)], ?bu3, ?o0u3⟩), ([11], ⟨[(15, ?m15u3), (16, ?m16u3), (17, ?m17u3), (18, ?m18u3), (19, ?m19u3), (20, ?m20u3), (21, ?m21u3), (22, ?m22u3), (23, ?m23u3), (24, ?m24u3), (25, ?m25u3), (26, ?m26u3), (27, ?m27u3), (28, ?m28u3), (29, ?m29u3)], ?bu3, ?o1u3⟩), ([11, 12], ⟨[(15, ?m15u3), (16, ?m16u3), (17, ?m17u3), (18, ?m18u3), (19, ?m19u3), (20, ?m20u3), (21, ?m21u3), (22, ?m22u3), (23, ?m23u3), (24, ?m24u3), (25, ?m25u3), (26, ?m26u3), (27, ?m27u3), (28, ?m28u3), (29, ?m29u3)], ?bu3, ?o2u3⟩), ([11, 12, 15], ⟨[(15, ?m15u3), (16, ?m16u3), (17, ?m17u3), (18, ?m18u3), (19, ?m19u3), (20, ?m20u3), (21, ?m21u3), (22, ?m22u3), (23, ?m23u3), (24, ?m24u3), (25, ?m25u3), (26, ?m26u3), (27, ?m27u3), (28, ?m28u3), (29, ?m29u3)], ?bu3, ?o3u3⟩)] ?hoku3 rfl rfl ?hbu3 ?hou3 ?hstu3 ?hku3
        case' hbu3 => rfl
        case' hou3 => rfl
        case' hstu3 => refine ⟨⟨?v0u3, ?s0u3⟩, ⟨⟨?v1u3, ?s1u3⟩, ⟨⟨?v2u3, ?s2u3⟩, ⟨⟨?v3u3, ?s3u3⟩, True.intro⟩⟩⟩⟩
        case v0u3 =>
          refine ⟨.inr ⟨_, rfl, effN_self (eff_v rfl rfl (by simp -dsimp [valT, b1, hlt, he, toDs] <;> with_reducible rfl))⟩, ?_⟩
          refine ⟨.inr ⟨_, rfl, effN_self (eff_v rfl rfl (by simp -dsimp [valT, b1, hlt, he, toDs] <;> with_reducible rfl))⟩, ?_⟩
          refine ⟨.inr ⟨_, rfl, effN_self (eff_v rfl rfl (by simp -dsimp [valT, b1, hlt, he, toDs] <;> with_reducible rfl))⟩, ?_⟩
          refine ⟨.inr ⟨_, rfl, effN_self (eff_v rfl rfl (by simp -dsimp [valT, b1, hlt, he, toDs] <;> with_reducible rfl))⟩, ?_⟩
          refine ⟨.inr ⟨_, rfl, effN_self (eff_v rfl rfl (by simp -dsimp [valT, b1, hlt, he, toDs] <;> with_reducible rfl))⟩, ?_⟩
          refine ⟨.inr ⟨_, rfl, effN_self (eff_v rfl rfl (by simp -dsimp [valT, b1, hlt, he, toDs] <;> with_reducible rfl))⟩, ?_⟩
          refine ⟨.inr ⟨_, rfl, effN_self (eff_v rfl rfl (by simp -dsimp [valT, b1, hlt, he, toDs] <;> with_reducible rfl))⟩, ?_⟩
          refine ⟨.inr ⟨_, rfl, effN_self (eff_v rfl rfl (by simp -dsimp [valT, b1, hlt, he, toDs] <;> with_reducible rfl))⟩, ?_⟩
          refine ⟨.inr ⟨_, rfl, effN_self (eff_v rfl rfl (by simp -dsimp [valT, b1, hlt, he, toDs] <;> with_reducible rfl))⟩, ?_⟩
          refine ⟨.inr ⟨_, rfl, effN_self (eff_c (d := 24) (hc) rfl rfl rfl (by simp -dsimp [valT, b1, hlt, he, toDs] <;> (first | done | rfl | exact ⟨rfl, rfl⟩ | exact ⟨rfl, rfl, rfl⟩)) (by simp -dsimp [valT, b1, hlt, he, toDs]) (by simp -dsimp [valT, b1, hlt, he, toDs] <;> with_reducible rfl))⟩, ?_⟩
          refine ⟨.inr ⟨_, rfl, effN_self (eff_v rfl rfl (by simp -dsimp [valT, b1, hlt, he, toDs] <;> with_reducible rfl))⟩, ?_⟩
          refine ⟨.inl (by kernel_rfl), ?_⟩
          refine ⟨.inl (by kernel_rfl), ?_⟩
          refine ⟨.inl (by kernel_rfl), ?_⟩
          refine ⟨.inl (by kernel_rfl), ?_⟩
          refine ⟨.inl (by kernel_rfl), ?_⟩
          exact True.intro
        case s0u3 =>
          refine ⟨.inr ⟨_, _, rfl, rfl, effN_of (eff_w (hdk := rfl) (hW := rfl) (hq := by simp -dsimp [valT, b1, hlt, he, toDs] <;> (first | done | rfl | exact ⟨rfl, rfl⟩ | exact ⟨rfl, rfl, rfl⟩)) (hoo := rfl) (hv := by simp -dsimp [valT, b1, hlt, he, toDs] <;> with_reducible rfl)) (by simp -dsimp [valT, canonO, insO, b1, hlt, he, toDs] <;> with_reducible rfl)⟩, ?_⟩
          refine ⟨.inl (by kernel_rfl), ?_⟩
          refine ⟨.inl (by kernel_rfl), ?_⟩
          exact True.intro
        case v1u3 =>
          refine ⟨.inr ⟨_, rfl, effN_self (eff_v rfl rfl (by simp -dsimp [valT, b1, hlt, he, toDs] <;> with_reducible rfl))⟩, ?_⟩
          refine ⟨.inr ⟨_, rfl, effN_self (eff_v rfl rfl (by simp -dsimp [valT, b1, hlt, he, toDs] <;> with_reducible rfl))⟩, ?_⟩
          refine ⟨.inr ⟨_, rfl, effN_self (eff_v rfl rfl (by simp -dsimp [valT, b1, hlt, he, toDs] <;> with_reducible rfl))⟩, ?_⟩
          refine ⟨.inr ⟨_, rfl, effN_self (eff_v rfl rfl (by simp -dsimp [valT, b1, hlt, he, toDs] <;> with_reducible rfl))⟩, ?_⟩
          refine ⟨.inr ⟨_, rfl, effN_self (eff_v rfl rfl (by simp -dsimp [valT, b1, hlt, he, toDs] <;> with_reducible rfl))⟩, ?_⟩
          refine ⟨.inl (by kernel_rfl), ?_⟩
          refine ⟨.inl (by kernel_rfl), ?_⟩
          refine ⟨.inl (by kernel_rfl), ?_⟩
          refine ⟨.inl (by kernel_rfl), ?_⟩
          refine ⟨.inl (by kernel_rfl), ?_⟩
          refine ⟨.inl (by kernel_rfl), ?_⟩
          refine ⟨.inl (by kernel_rfl), ?_⟩
          refine ⟨.inl (by kernel_rfl), ?_⟩
          refine ⟨.inl (by kernel_rfl), ?_⟩
          refine ⟨.inl (by kernel_rfl), ?_⟩
          refine ⟨.inl (by kernel_rfl), ?_⟩
          exact True.intro
        case s1u3 =>
          refine ⟨.inl (by kernel_rfl), ?_⟩
          refine ⟨.inr ⟨_, _, rfl, rfl, effN_of (eff_w (hdk := rfl) (hW := rfl) (hq := by simp -dsimp [valT, b1, hlt, he, toDs] <;> (first | done | rfl | exact ⟨rfl, rfl⟩ | exact ⟨rfl, rfl, rfl⟩)) (hoo := rfl) (hv := by simp -dsimp [valT, b1, hlt, he, toDs] <;> with_reducible rfl)) (by simp -dsimp [valT, canonO, insO, b1, hlt, he, toDs] <;> with_reducible rfl)⟩, ?_⟩
          refine ⟨.inl (by kernel_rfl), ?_⟩
          exact True.intro
        case v2u3 =>
          refine ⟨.inr ⟨_, rfl, effN_self (eff_v rfl rfl (by simp -dsimp [valT, b1, hlt, he, toDs] <;> with_reducible rfl))⟩, ?_⟩
          refine ⟨.inl (by kernel_rfl), ?_⟩
          refine ⟨.inl (by kernel_rfl), ?_⟩
          refine ⟨.inl (by kernel_rfl), ?_⟩
          refine ⟨.inl (by kernel_rfl), ?_⟩
          refine ⟨.inl (by kernel_rfl), ?_⟩
          refine ⟨.inl (by kernel_rfl), ?_⟩
          refine ⟨.inl (by kernel_rfl), ?_⟩
          refine ⟨.inl (by kernel_rfl), ?_⟩
          refine ⟨.inl (by kernel_rfl), ?_⟩
          refine ⟨.inl (by kernel_rfl), ?_⟩
          refine ⟨.inl (by kernel_rfl), ?_⟩
          refine ⟨.inl (by kernel_rfl), ?_⟩
          refine ⟨.inr ⟨_, rfl, effN_self (eff_v rfl rfl (by simp -dsimp [valT, b1, hlt, he, toDs] <;> with_reducible rfl))⟩, ?_⟩
          refine ⟨.inr ⟨_, rfl, effN_self (eff_v rfl rfl (by simp -dsimp [valT, b1, hlt, he, toDs] <;> with_reducible rfl))⟩, ?_⟩
          refine ⟨.inl (by kernel_rfl), ?_⟩
          exact True.intro
        case s2u3 =>
          refine ⟨.inl (by kernel_rfl), ?_⟩
          refine ⟨.inl (by kernel_rfl), ?_⟩
          refine ⟨.inr ⟨_, _, rfl, rfl, effN_of (eff_w (hdk := rfl) (hW := rfl) (hq := by simp -dsimp [valT, b1, hlt, he, toDs] <;> (first | done | rfl | exact ⟨rfl, rfl⟩ | exact ⟨rfl, rfl, rfl⟩)) (hoo := rfl) (hv := by simp -dsimp [valT, b1, hlt, he, toDs] <;> with_reducible rfl)) (by simp -dsimp [valT, canonO, insO, b1, hlt, he, toDs] <;> with_reducible rfl)⟩, ?_⟩
          exact True.intro
        case v3u3 =>
          refine ⟨.inl (by kernel_rfl), ?_⟩
          refine ⟨.inl (by kernel_rfl), ?_⟩
          refine ⟨.inl (by kernel_rfl), ?_⟩
          refine ⟨.inl (by kernel_rfl), ?_⟩
          refine ⟨.inl (by kernel_rfl), ?_⟩
          refine ⟨.inl (by kernel_rfl), ?_⟩
          refine ⟨.inl (by kernel_rfl), ?_⟩
          refine ⟨.inl (by kernel_rfl), ?_⟩
          refine ⟨.inl (by kernel_rfl), ?_⟩
          refine ⟨.inl (by kernel_rfl), ?_⟩
          refine ⟨.inl (by kernel_rfl), ?_⟩
          refine ⟨.inl (by kernel_rfl), ?_⟩
          refine ⟨.inl (by kernel_rfl), ?_⟩
          refine ⟨.inl (by kernel_rfl), ?_⟩
          refine ⟨.inl (by kernel_rfl), ?_⟩
          refine ⟨.inl (by kernel_rfl), ?_⟩
          exact True.intro
        case s3u3 =>
          refine ⟨.inl (by kernel_rfl), ?_⟩
          refine ⟨.inl (by kernel_rfl), ?_⟩
          refine ⟨.inl (by kernel_rfl), ?_⟩
          exact True.intro
        case hoku3 => kernel_rfl
        refine ⟨rfl, ?_⟩
        (repeat' (first
                                                            | (with_reducible refine br_d (fun _ => ?_) (fun _ => ?_))
                                                            | (with_reducible refine br_i (fun _ => ?_) (fun _ => ?_))
                                                            | ((with_reducible apply nd_next); (case hx => simp -dsimp [w1]; first | done | with_reducible rfl); (case hid => simp -dsimp [w1]; first | done | with_reducible rfl | exact ⟨rfl, rfl, rfl⟩ | exact ⟨rfl, rfl⟩); (case' h1 => intro _ _ _); (case' h0 => intro _))
                                                            | ((with_reducible apply nd_entry); (case hx => simp -dsimp [w1]; first | done | with_reducible rfl); (case hid => simp -dsimp [w1]; first | done | with_reducible rfl | exact ⟨rfl, rfl, rfl⟩ | exact ⟨rfl, rfl⟩))
                                                            | ((with_reducible apply nd_range); (case hx => simp -dsimp [w1]; with_reducible rfl); (case hT => simp -dsimp [w1]); (case hnd => assumption); (case hz => simp -dsimp [w1]))
                                                            | (with_reducible refine dn_i follows_any (by kernel_rfl) ?_)
                                                            | (with_reducible exact done_eq rfl)
                                                            | (simp -dsimp [w1]))); (all_goals try with_reducible refine done_eq ?_)
        refine hK _ 1 ?_ (by omega) (by omega)
        rw [if_neg (by decide), kT]
        exact Weak.same (by simp -dsimp) (by simp -dsimp) (by first | rfl | (simp [closedSt, Av.ids, Ow.ids, Cl.ids, Go.Smd.keys]; done))
      · rw [if_neg h0]
        obtain ⟨R, hR⟩ : ∃ R, R = (l.map tsD).take i := ⟨_, rfl⟩
        have hRl : R.length = i := by rw [hR]; simp; omega
        rw [← hR] at kT ⊢
        have hb : (i + 1) * 40 ≤ 140737488351232 := by omega
        (repeat' (first
                                                            | (with_reducible refine br_d (fun _ => ?_) (fun _ => ?_))
                                                            | (with_reducible refine br_i (fun _ => ?_) (fun _ => ?_))
                                                            | ((with_reducible apply nd_next); (case hx => simp -dsimp [b1, hlt, he, hw]; first | done | with_reducible rfl); (case hid => simp -dsimp [b1, hlt, he, hw]; first | done | with_reducible rfl | exact ⟨rfl, rfl, rfl⟩ | exact ⟨rfl, rfl⟩); (case' h1 => intro _ _ _); (case' h0 => intro _))
                                                            | ((with_reducible apply nd_entry); (case hx => simp -dsimp [b1, hlt, he, hw]; first | done | with_reducible rfl); (case hid => simp -dsimp [b1, hlt, he, hw]; first | done | with_reducible rfl | exact ⟨rfl, rfl, rfl⟩ | exact ⟨rfl, rfl⟩))
                                                            | ((with_reducible apply nd_range); (case hx => simp -dsimp [b1, hlt, he, hw]; with_reducible rfl); (case hT => simp -dsimp [b1, hlt, he, hw]); (case hnd => assumption); (case hz => simp -dsimp [b1, hlt, he, hw]))
                                                            | (with_reducible refine dn_i follows_any (by kernel_rfl) ?_)
                                                            | (with_reducible exact done_eq rfl)
                                                            | (simp -dsimp [b1, hlt, he, hw]))); (all_goals try with_reducible refine done_eq ?_)
        refine exD_p ?_
        refine aw_drawn_n follows_any [[], [], [1], [1, 2], [1, 2, 3], [], [5], [], [7], [7, 8], [5, 6, 7, 8, 9], [5, 6, 7, 8, 9, 10], [1, 2, 3, 4, 5, 6, 7, 8, 9, 10, 11], [0, 1, 2, 3, 4, 5, 6, 7, 8, 9, 10, 11, 12], [0, 1, 2, 3, 4, 5, 6, 7, 8, 9, 10, 11, 12, 13], [0, 1, 2, 3, 4, 5, 6, 7, 8, 9, 10, 11, 12, 13, 14]] [0, 1, 2, 3, 4, 5, 6, 7, 8, 9, 10, 11, 12, 13, 14, 15] [11, 12, 15] [([], ⟨[(15, ?m15u4), (16, ?m16u4), (17, ?m17u4), (18, ?m18u4), (19, ?m19u4), (20, ?m20u4), (21, ?m21u4), (22, ?m22u4), (23, ?m23u4), (24, ?m24u4), (25, ?m25u4), (26, ?m26u4), (27, ?m27u4), (28, ?m28u4), (29, ?m29u4)], ?bu4, ?o0u4⟩), ([11], ⟨[(15, ?m15u4), (16, ?m16u4), (17, ?m17u4), (18, ?m18u4), (19, ?m19u4), (20, ?m20u4), (21, ?m21u4), (22, ?m22u4), (23, ?m23u4), (24, ?m24u4), (25, ?m25u4), (26, ?m26u4), (27, ?m27u4), (28, ?m28u4), (29, ?m29u4)], ?bu4, ?o1u4⟩), ([11, 12], ⟨[(15, ?m15u4), (16, ?m16u4), (17, ?m17u4), (18, ?m18u4), (19, ?m19u4), (20, ?m20u4), (21, ?m21u4), (22, ?m22u4), (23, ?m23u4), (24, ?m24u4), (25, ?m25u4), (26, ?m26u4), (27, ?m27u4), (28, ?m28u4), (29, ?m29u4)], ?bu4, ?o2u4⟩), ([11, 12, 15], ⟨[(15, ?m15u4), (16, ?m16u4), (17, ?m17u4), (18, ?m18u4), (19, ?m19u4), (20, ?m20u4), (21, ?m21u4), (22, ?m22u4), (23, ?m23u4), (24, ?m24u4), (25, ?m25u4), (26, ?m26u4), (27, ?m27u4), (28, ?m28u4), (29, ?m29u4)], ?bu4, ?o3u4⟩)] ?hoku4 rfl rfl ?hbu4 ?hou4 ?hstu4 ?hku4
        case' hbu4 => rfl
        case' hou4 => rfl
        case' hstu4 => refine ⟨⟨?v0u4, ?s0u4⟩, ⟨⟨?v1u4, ?s1u4⟩, ⟨⟨?v2u4, ?s2u4⟩, ⟨⟨?v3u4, ?s3u4⟩, True.intro⟩⟩⟩⟩
        case v0u4 =>
          refine ⟨.inr ⟨_, rfl, effN_self (eff_v rfl rfl (by simp -dsimp [valT, b1, hlt, he, toDs, hRl, hb] <;> with_reducible rfl))⟩, ?_⟩
          refine ⟨.inr ⟨_, rfl, effN_self (eff_v rfl rfl (by simp -dsimp [valT, b1, hlt, he, toDs, hRl, hb] <;> with_reducible rfl))⟩, ?_⟩
          refine ⟨.inr ⟨_, rfl, effN_self (eff_v rfl rfl (by simp -dsimp [valT, b1, hlt, he, toDs, hRl, hb] <;> with_reducible rfl))⟩, ?_⟩
          refine ⟨.inr ⟨_, rfl, effN_self (eff_v rfl rfl (by simp -dsimp [valT, b1, hlt, he, toDs, hRl, hb] <;> with_reducible rfl))⟩, ?_⟩
          refine ⟨.inr ⟨_, rfl, effN_self (eff_v rfl rfl (by simp -dsimp [valT, b1, hlt, he, toDs, hRl, hb] <;> with_reducible rfl))⟩, ?_⟩
          refine ⟨.inr ⟨_, rfl, effN_self (eff_v rfl rfl (by simp -dsimp [valT, b1, hlt, he, toDs, hRl, hb] <;> with_reducible rfl))⟩, ?_⟩
          refine ⟨.inr ⟨_, rfl, effN_self (eff_v rfl rfl (by simp -dsimp [valT, b1, hlt, he, toDs, hRl, hb] <;> with_reducible rfl))⟩, ?_⟩
          refine ⟨.inr ⟨_, rfl, effN_self (eff_v rfl rfl (by simp -dsimp [valT, b1, hlt, he, toDs, hRl, hb] <;> with_reducible rfl))⟩, ?_⟩
          refine ⟨.inr ⟨_, rfl, effN_self (eff_v rfl rfl (by simp -dsimp [valT, b1, hlt, he, toDs, hRl, hb] <;> with_reducible rfl))⟩, ?_⟩
          refine ⟨.inr ⟨_, rfl, effN_self (eff_c (d := 24) (hc) rfl rfl rfl (by simp -dsimp [valT, b1, hlt, he, toDs, hRl, hb] <;> (first | done | rfl | exact ⟨rfl, rfl⟩ | exact ⟨rfl, rfl, rfl⟩)) (by simp -dsimp [valT, b1, hlt, he, toDs, hRl, hb]) (by simp -dsimp [valT, b1, hlt, he, toDs, hRl, hb] <;> with_reducible rfl))⟩, ?_⟩
          refine ⟨.inr ⟨_, rfl, effN_self (eff_v rfl rfl (by simp -dsimp [valT, b1, hlt, he, toDs, hRl, hb] <;> with_reducible rfl))⟩, ?_⟩
          refine ⟨.inl (by kernel_rfl), ?_⟩
          refine ⟨.inl (by kernel_rfl), ?_⟩
          refine ⟨.inl (by kernel_rfl), ?_⟩
          refine ⟨.inl (by kernel_rfl), ?_⟩
          refine ⟨.inl (by kernel_rfl), ?_⟩
          exact True.intro
        case s0u4 =>
          refine ⟨.inr ⟨_, _, rfl, rfl, effN_of (eff_w (hdk := rfl) (hW := rfl) (hq := by simp -dsimp [valT, b1, hlt, he, toDs, hRl, hb] <;> (first | done | rfl | exact ⟨rfl, rfl⟩ | exact ⟨rfl, rfl, rfl⟩)) (hoo := rfl) (hv := by simp -dsimp [valT, b1, hlt, he, toDs, hRl, hb] <;> with_reducible rfl)) (by simp -dsimp [valT, canonO, insO, b1, hlt, he, toDs, hRl, hb] <;> with_reducible rfl)⟩, ?_⟩
          refine ⟨.inl (by kernel_rfl), ?_⟩
          refine ⟨.inl (by kernel_rfl), ?_⟩
          exact True.intro
        case v1u4 =>
          refine ⟨.inr ⟨_, rfl, effN_self (eff_v rfl rfl (by simp -dsimp [valT, b1, hlt, he, toDs, hRl, hb] <;> with_reducible rfl))⟩, ?_⟩
          refine ⟨.inr ⟨_, rfl, effN_self (eff_v rfl rfl (by simp -dsimp [valT, b1, hlt, he, toDs, hRl, hb] <;> with_reducible rfl))⟩, ?_⟩
          refine ⟨.inr ⟨_, rfl, effN_self (eff_v rfl rfl (by simp -dsimp [valT, b1, hlt, he, toDs, hRl, hb] <;> with_reducible rfl))⟩, ?_⟩
          refine ⟨.inr ⟨_, rfl, effN_self (eff_v rfl rfl (by simp -dsimp [valT, b1, hlt, he, toDs, hRl, hb] <;> with_reducible rfl))⟩, ?_⟩
          refine ⟨.inr ⟨_, rfl, effN_self (eff_v rfl rfl (by simp -dsimp [valT, b1, hlt, he, toDs, hRl, hb] <;> with_reducible rfl))⟩, ?_⟩
          refine ⟨.inl (by kernel_rfl), ?_⟩
          refine ⟨.inl (by kernel_rfl), ?_⟩
          refine ⟨.inl (by kernel_rfl), ?_⟩
          refine ⟨.inl (by kernel_rfl), ?_⟩
          refine ⟨.inl (by kernel_rfl), ?_⟩
          refine ⟨.inl (by kernel_rfl), ?_⟩
          refine ⟨.inl (by kernel_rfl), ?_⟩
          refine ⟨.inl (by kernel_rfl), ?_⟩
          refine ⟨.inl (by kernel_rfl), ?_⟩
          refine ⟨.inl (by kernel_rfl), ?_⟩
          refine ⟨.inl (by kernel_rfl), ?_⟩
          exact True.intro
        case s1u4 =>
          refine ⟨.inl (by kernel_rfl), ?_⟩
          refine ⟨.inr ⟨_, _, rfl, rfl, effN_of (eff_w (hdk := rfl) (hW := rfl) (hq := by simp -dsimp [valT, b1, hlt, he, toDs, hRl, hb] <;> (first | done | rfl | exact ⟨rfl, rfl⟩ | exact ⟨rfl, rfl, rfl⟩)) (hoo := rfl) (hv := by simp -dsimp [valT, b1, hlt, he, toDs, hRl, hb] <;> with_reducible rfl)) (by simp -dsimp [valT, canonO, insO, b1, hlt, he, toDs, hRl, hb] <;> with_reducible rfl)⟩, ?_⟩
          refine ⟨.inl (by kernel_rfl), ?_⟩
          exact True.intro
        case v2u4 =>
          refine ⟨.inr ⟨_, rfl, effN_self (eff_v rfl rfl (by simp -dsimp [valT, b1, hlt, he, toDs, hRl, hb] <;> with_reducible rfl))⟩, ?_⟩
          refine ⟨.inl (by kernel_rfl), ?_⟩
          refine ⟨.inl (by kernel_rfl), ?_⟩
          refine ⟨.inl (by kernel_rfl), ?_⟩
          refine ⟨.inl (by kernel_rfl), ?_⟩
          refine ⟨.inl (by kernel_rfl), ?_⟩
          refine ⟨.inl (by kernel_rfl), ?_⟩
          refine ⟨.inl (by kernel_rfl), ?_⟩
          refine ⟨.inl (by kernel_rfl), ?_⟩
          refine ⟨.inl (by kernel_rfl), ?_⟩
          refine ⟨.inl (by kernel_rfl), ?_⟩
          refine ⟨.inl (by kernel_rfl), ?_⟩
          refine ⟨.inl (by kernel_rfl), ?_⟩
          refine ⟨.inr ⟨_, rfl, effN_self (eff_v rfl rfl (by simp -dsimp [valT, b1, hlt, he, toDs, hRl, hb] <;> with_reducible rfl))⟩, ?_⟩
          refine ⟨.inr ⟨_, rfl, effN_self (eff_v rfl rfl (by simp -dsimp [valT, b1, hlt, he, toDs, hRl, hb] <;> with_reducible rfl))⟩, ?_⟩
          refine ⟨.inl (by kernel_rfl), ?_⟩
          exact True.intro
        case s2u4 =>
          refine ⟨.inl (by kernel_rfl), ?_⟩
          refine ⟨.inl (by kernel_rfl), ?_⟩
          refine ⟨.inr ⟨_, _, rfl, rfl, effN_of (eff_w (hdk := rfl) (hW := rfl) (hq := by simp -dsimp [valT, b1, hlt, he, toDs, hRl, hb] <;> (first | done | rfl | exact ⟨rfl, rfl⟩ | exact ⟨rfl, rfl, rfl⟩)) (hoo := rfl) (hv := by simp -dsimp [valT, b1, hlt, he, toDs, hRl, hb] <;> with_reducible rfl)) (by simp -dsimp [valT, canonO, insO, b1, hlt, he, toDs, hRl, hb] <;> with_reducible rfl)⟩, ?_⟩
          exact True.intro
        case v3u4 =>
          refine ⟨.inl (by kernel_rfl), ?_⟩
          refine ⟨.inl (by kernel_rfl), ?_⟩
          refine ⟨.inl (by kernel_rfl), ?_⟩
          refine ⟨.inl (by kernel_rfl), ?_⟩
          refine ⟨.inl (by kernel_rfl), ?_⟩
          refine ⟨.inl (by kernel_rfl), ?_⟩
          refine ⟨.inl (by kernel_rfl), ?_⟩
          refine ⟨.inl (by kernel_rfl), ?_⟩
          refine ⟨.inl (by kernel_rfl), ?_⟩
          refine ⟨.inl (by kernel_rfl), ?_⟩
          refine ⟨.inl (by kernel_rfl), ?_⟩
          refine ⟨.inl (by kernel_rfl), ?_⟩
          refine ⟨.inl (by kernel_rfl), ?_⟩
          refine ⟨.inl (by kernel_rfl), ?_⟩
          refine ⟨.inl (by kernel_rfl), ?_⟩
          refine ⟨.inl (by kernel_rfl), ?_⟩
          exact True.intro
        case s3u4 =>
          refine ⟨.inl (by kernel_rfl), ?_⟩
          refine ⟨.inl (by kernel_rfl), ?_⟩
          refine ⟨.inl (by kernel_rfl), ?_⟩
          exact True.intro
        case hoku4 => kernel_rfl
        refine ⟨rfl, ?_⟩
        (repeat' (first
                                                            | (with_reducible refine br_d (fun _ => ?_) (fun _ => ?_))
                                                            | (with_reducible refine br_i (fun _ => ?_) (fun _ => ?_))
                                                            | ((with_reducible apply nd_next); (case hx => simp -dsimp [hw]; first | done | with_reducible rfl); (case hid => simp -dsimp [hw]; first | done | with_reducible rfl | exact ⟨rfl, rfl, rfl⟩ | exact ⟨rfl, rfl⟩); (case' h1 => intro _ _ _); (case' h0 => intro _))
                                                            | ((with_reducible apply nd_entry); (case hx => simp -dsimp [hw]; first | done | with_reducible rfl); (case hid => simp -dsimp [hw]; first | done | with_reducible rfl | exact ⟨rfl, rfl, rfl⟩ | exact ⟨rfl, rfl⟩))
                                                            | ((with_reducible apply nd_range); (case hx => simp -dsimp [hw]; with_reducible rfl); (case hT => simp -dsimp [hw]); (case hnd => assumption); (case hz => simp -dsimp [hw]))
                                                            | (with_reducible refine dn_i follows_any (by kernel_rfl) ?_)
                                                            | (with_reducible exact done_eq rfl)
                                                            | (simp -dsimp [hw]))); (all_goals try with_reducible refine done_eq ?_)
        refine hK _ (i + 1) ?_ (by omega) (by omega)
        rw [if_neg (by omega), kT]
        exact Weak.same (by simp -dsimp) (by simp -dsimp) (by first | rfl | (simp [closedSt, Av.ids, Ow.ids, Cl.ids, Go.Smd.keys]; done))
    · have hi2 : i = l.length := by omega
      subst hi2
      rw [if_neg (by omega), List.take_of_length_le (by simp)]
      (repeat' (first
                                                            | (with_reducible refine br_d (fun _ => ?_) (fun _ => ?_))
                                                            | (with_reducible refine br_i (fun _ => ?_) (fun _ => ?_))
                                                            | ((with_reducible apply nd_next); (case hx => simp -dsimp [b1]; first | done | with_reducible rfl); (case hid => simp -dsimp [b1]; first | done | with_reducible rfl | exact ⟨rfl, rfl, rfl⟩ | exact ⟨rfl, rfl⟩); (case' h1 => intro _ _ _); (case' h0 => intro _))
                                                            | ((with_reducible apply nd_entry); (case hx => simp -dsimp [b1]; first | done | with_reducible rfl); (case hid => simp -dsimp [b1]; first | done | with_reducible rfl | exact ⟨rfl, rfl, rfl⟩ | exact ⟨rfl, rfl⟩))
                                                            | ((with_reducible apply nd_range); (case hx => simp -dsimp [b1]; with_reducible rfl); (case hT => simp -dsimp [b1]); (case hnd => assumption); (case hz => simp -dsimp [b1]))
                                                            | (with_reducible refine dn_i follows_any (by kernel_rfl) ?_)
                                                            | (with_reducible exact done_eq rfl)
                                                            | (simp -dsimp [b1]))); (all_goals try with_reducible refine done_eq ?_)
theorem toSchema_0 : AProc Try.prog 67 [.agg [.d (dTDs [])]] [] (fun r own' => r = .c (.own 7 0) ∧ own' = [(7, cSch (.d (.v (.slice none 0 0)))), (1, .cells [.d (dTDs [])] 51)]) := by
  refine aproc_ex [(5, ([], [(0, []), (1, []), (2, []), (3, []), (4, []), (5, []), (6, []), (7, []), (8, []), (9, []), (10, []), (11, []), (12, []), (13, []), (14, []), (15, [])]))] Try.func67 (by kernel_rfl) rfl Try.ntmps67 Try.results67 (Nat.le_of_ble_eq_true (by kernel_rfl)) ?_; intro hok w0 S0
  (repeat' (first
                                                            | (with_reducible refine br_d (fun _ => ?_) (fun _ => ?_))
                                                            | (with_reducible refine br_i (fun _ => ?_) (fun _ => ?_))
                                                            | ((with_reducible apply nd_next); (case hx => simp -dsimp; first | done | with_reducible rfl); (case hid => simp -dsimp; first | done | with_reducible rfl | exact ⟨rfl, rfl, rfl⟩ | exact ⟨rfl, rfl⟩); (case' h1 => intro _ _ _); (case' h0 => intro _))
                                                            | ((with_reducible apply nd_entry); (case hx => simp -dsimp; first | done | with_reducible rfl); (case hid => simp -dsimp; first | done | with_reducible rfl | exact ⟨rfl, rfl, rfl⟩ | exact ⟨rfl, rfl⟩))
                                                            | ((with_reducible apply nd_range); (case hx => simp -dsimp; with_reducible rfl); (case hT => simp -dsimp); (case hnd => assumption); (case hz => simp -dsimp))
                                                            | (with_reducible refine dn_i follows_any (by kernel_rfl) ?_)
                                                            | (with_reducible exact done_eq rfl)
                                                            | (simp -dsimp))); (all_goals try with_reducible refine done_eq ?_)
  refine ex_loop (fun _ : Unit => ⟨[(3, .c (.own 7 0)), (9, .c (.d (dTDs []))), (10, aI 0), (11, aI 0)], [(7, cSch (.d (.v (.slice none 0 0)))), (1, .cells [.d (dTDs [])] 51)]⟩) (fun _ => True) (fun _ => 0) () ?_ trivial ?_
  · exact Weak.same (by simp -dsimp) (by simp -dsimp) (by first | rfl | (simp [closedSt, Av.ids, Ow.ids, Cl.ids, Go.Smd.keys]; done))
  · rintro _ _ K hK
    (repeat' (first
                                                            | (with_reducible refine br_d (fun _ => ?_) (fun _ => ?_))
                                                            | (with_reducible refine br_i (fun _ => ?_) (fun _ => ?_))
                                                            | ((with_reducible apply nd_next); (case hx => simp -dsimp; first | done | with_reducible rfl); (case hid => simp -dsimp; first | done | with_reducible rfl | exact ⟨rfl, rfl, rfl⟩ | exact ⟨rfl, rfl⟩); (case' h1 => intro _ _ _); (case' h0 => intro _))
                                                            | ((with_reducible apply nd_entry); (case hx => simp -dsimp; first | done | with_reducible rfl); (case hid => simp -dsimp; first | done | with_reducible rfl | exact ⟨rfl, rfl, rfl⟩ | exact ⟨rfl, rfl⟩))
                                                            | ((with_reducible apply nd_range); (case hx => simp -dsimp; with_reducible rfl); (case hT => simp -dsimp); (case hnd => assumption); (case hz => simp -dsimp))
                                                            | (with_reducible refine dn_i follows_any (by kernel_rfl) ?_)
                                                            | (with_reducible exact done_eq rfl)
                                                            | (simp -dsimp))); (all_goals try with_reducible refine done_eq ?_)
    exact ⟨rfl, rfl⟩
theorem toSchema_e : ACalls Try.prog 67 [.agg [.d (dTDs [])]] (fun r => r = .c (.d (.pt [dTSs []]))) := by
  refine acalls_ex [(5, ([], [(0, []), (1, []), (2, []), (3, []), (4, []), (5, []), (6, []), (7, []), (8, []), (9, []), (10, []), (11, []), (12, []), (13, []), (14, []), (15, [])]))] Try.func67 (by kernel_rfl) rfl Try.ntmps67 Try.results67 (Nat.le_of_ble_eq_true (by kernel_rfl)) ?_; intro hok w0 S0
  clear hok
  (repeat' (first
                                                            | (with_reducible refine br_d (fun _ => ?_) (fun _ => ?_))
                                                            | (with_reducible refine br_i (fun _ => ?_) (fun _ => ?_))
                                                            | ((with_reducible apply nd_next); (case hx => simp -dsimp; first | done | with_reducible rfl); (case hid => simp -dsimp; first | done | with_reducible rfl | exact ⟨rfl, rfl, rfl⟩ | exact ⟨rfl, rfl⟩); (case' h1 => intro _ _ _); (case' h0 => intro _))
                                                            | ((with_reducible apply nd_entry); (case hx => simp -dsimp; first | done | with_reducible rfl); (case hid => simp -dsimp; first | done | with_reducible rfl | exact ⟨rfl, rfl, rfl⟩ | exact ⟨rfl, rfl⟩))
                                                            | ((with_reducible apply nd_range); (case hx => simp -dsimp; with_reducible rfl); (case hT => simp -dsimp); (case hnd => assumption); (case hz => simp -dsimp))
                                                            | (with_reducible refine dn_i follows_any (by kernel_rfl) ?_)
                                                            | (with_reducible exact done_eq rfl)
                                                            | (simp -dsimp))); (all_goals try with_reducible refine done_eq ?_)
  refine ex_loop (fun _ : Unit => ⟨[(3, .c (.own 7 0)), (9, .c (.d (dTDs []))), (10, aI 0), (11, aI 0)], [(7, cSch (.d (.v (.slice none 0 0)))), (1, .cells [.d (dTDs [])] 51)]⟩) (fun _ => True) (fun _ => 0) () ?_ trivial ?_
  · exact Weak.same (by simp -dsimp) (by simp -dsimp) (by first | rfl | (simp [closedSt, Av.ids, Ow.ids, Cl.ids, Go.Smd.keys]; done))
  · rintro _ _ K hK
    (repeat' (first
                                                            | (with_reducible refine br_d (fun _ => ?_) (fun _ => ?_))
                                                            | (with_reducible refine br_i (fun _ => ?_) (fun _ => ?_))
                                                            | ((with_reducible apply nd_next); (case hx => simp -dsimp; first | done | with_reducible rfl); (case hid => simp -dsimp; first | done | with_reducible rfl | exact ⟨rfl, rfl, rfl⟩ | exact ⟨rfl, rfl⟩); (case' h1 => intro _ _ _); (case' h0 => intro _))
                                                            | ((with_reducible apply nd_entry); (case hx => simp -dsimp; first | done | with_reducible rfl); (case hid => simp -dsimp; first | done | with_reducible rfl | exact ⟨rfl, rfl, rfl⟩ | exact ⟨rfl, rfl⟩))
                                                            | ((with_reducible apply nd_range); (case hx => simp -dsimp; with_reducible rfl); (case hT => simp -dsimp); (case hnd => assumption); (case hz => simp -dsimp))
                                                            | (with_reducible refine dn_i follows_any (by kernel_rfl) ?_)
                                                            | (with_reducible exact done_eq rfl)
                                                            | (simp -dsimp))); (all_goals try with_reducible refine done_eq ?_)
theorem toSchema_a (l : List TD) (hl : l.length * 80 ≤ 140737488351232) (hg : ∀ t ∈ l, gA t.a) : ACalls Try.prog 67 [.agg [.d (dTDs l)]] (fun r => r = .c (.d (.pt [dTSs l]))) := by
  by_cases h : l = []
  · subst h; exact toSchema_e
  · exact toSchema_d l hl hg h
theorem copyInto_0 (l : List TD) : AProc Try.prog 68 [.c (.d (.pt [dTSs l])), .c (.own 1000000000 0)] [(1000000000, cSch (.d (.v (.slice none 0 0))))]
    (fun r own' => r = .tup [] ∧ own' = [(1000000000, cSch (.d (dTSs l)))]) := by
  refine aproc_ex [] Try.func68 (by kernel_rfl) rfl Try.ntmps68 Try.results68 (Nat.le_of_ble_eq_true (by kernel_rfl)) ?_; intro hok w0 S0
  (repeat' (first
                                                            | (with_reducible refine br_d (fun _ => ?_) (fun _ => ?_))
                                                            | (with_reducible refine br_i (fun _ => ?_) (fun _ => ?_))
                                                            | ((with_reducible apply nd_next); (case hx => simp -dsimp; first | done | with_reducible rfl); (case hid => simp -dsimp; first | done | with_reducible rfl | exact ⟨rfl, rfl, rfl⟩ | exact ⟨rfl, rfl⟩); (case' h1 => intro _ _ _); (case' h0 => intro _))
                                                            | ((with_reducible apply nd_entry); (case hx => simp -dsimp; first | done | with_reducible rfl); (case hid => simp -dsimp; first | done | with_reducible rfl | exact ⟨rfl, rfl, rfl⟩ | exact ⟨rfl, rfl⟩))
                                                            | ((with_reducible apply nd_range); (case hx => simp -dsimp; with_reducible rfl); (case hT => simp -dsimp); (case hnd => assumption); (case hz => simp -dsimp))
                                                            | (with_reducible refine dn_i follows_any (by kernel_rfl) ?_)
                                                            | (with_reducible exact done_eq rfl)
                                                            | (simp -dsimp))); (all_goals try with_reducible refine done_eq ?_)
  exact ⟨rfl, rfl⟩
theorem copyInto_w (l : List TD) (n : Nat) (R : List (List D)) : AProc Try.prog 68 [.c (.d (.pt [dTSs l])), .c (.own 1000000000 0)] [(1000000000, cSch (.gs 1000000001 n)), (1000000001, .arr n 177 R)]
    (fun r own' => r = .tup [] ∧ own' = [(1000000000, cSch (.d (dTSs l))), (1000000001, .arr n 177 R)]) := by
  refine aproc_ex [] Try.func68 (by kernel_rfl) rfl Try.ntmps68 Try.results68 (Nat.le_of_ble_eq_true (by kernel_rfl)) ?_; intro hok w0 S0
  (repeat' (first
                                                            | (with_reducible refine br_d (fun _ => ?_) (fun _ => ?_))
                                                            | (with_reducible refine br_i (fun _ => ?_) (fun _ => ?_))
                                                            | ((with_reducible apply nd_next); (case hx => simp -dsimp; first | done | with_reducible rfl); (case hid => simp -dsimp; first | done | with_reducible rfl | exact ⟨rfl, rfl, rfl⟩ | exact ⟨rfl, rfl⟩); (case' h1 => intro _ _ _); (case' h0 => intro _))
                                                            | ((with_reducible apply nd_entry); (case hx => simp -dsimp; first | done | with_reducible rfl); (case hid => simp -dsimp; first | done | with_reducible rfl | exact ⟨rfl, rfl, rfl⟩ | exact ⟨rfl, rfl⟩))
                                                            | ((with_reducible apply nd_range); (case hx => simp -dsimp; with_reducible rfl); (case hT => simp -dsimp); (case hnd => assumption); (case hz => simp -dsimp))
                                                            | (with_reducible refine dn_i follows_any (by kernel_rfl) ?_)
                                                            | (with_reducible exact done_eq rfl)
                                                            | (simp -dsimp))); (all_goals try with_reducible refine done_eq ?_)
  exact ⟨rfl, rfl⟩
theorem fromSchema_d (l : List TD) (hl : l.length * 80 ≤ 140737488351232) (hg : ∀ t ∈ l, gA t.a) (hne : l ≠ []) : ACalls Try.prog 69 [.c (.d (.pt [dTSs l]))] (fun r => r = .agg [.d (dTDs (l.map nTD))]) := by
  have b1 : l.length ≤ 9223372036854775807 := by omega
  refine acalls_ex [] Try.func69 (by kernel_rfl) rfl Try.ntmps69 Try.results69 (Nat.le_of_ble_eq_true (by kernel_rfl)) ?_; intro hok w0 S0
  clear hok
  (repeat' (first
                                                            | (with_reducible refine br_d (fun _ => ?_) (fun _ => ?_))
                                                            | (with_reducible refine br_i (fun _ => ?_) (fun _ => ?_))
                                                            | ((with_reducible apply nd_next); (case hx => simp -dsimp [b1]; first | done | with_reducible rfl); (case hid => simp -dsimp [b1]; first | done | with_reducible rfl | exact ⟨rfl, rfl, rfl⟩ | exact ⟨rfl, rfl⟩); (case' h1 => intro _ _ _); (case' h0 => intro _))
                                                            | ((with_reducible apply nd_entry); (case hx => simp -dsimp [b1]; first | done | with_reducible rfl); (case hid => simp -dsimp [b1]; first | done | with_reducible rfl | exact ⟨rfl, rfl, rfl⟩ | exact ⟨rfl, rfl⟩))
                                                            | ((with_reducible apply nd_range); (case hx => simp -dsimp [b1]; with_reducible rfl); (case hT => simp -dsimp [b1]); (case hnd => assumption); (case hz => simp -dsimp [b1]))
                                                            | (with_reducible refine dn_i follows_any (by kernel_rfl) ?_)
                                                            | (with_reducible exact done_eq rfl)
                                                            | (simp -dsimp [b1]))); (all_goals try with_reducible refine done_eq ?_)
  refine ex_loop (fun i : Nat => if i = 0 then ⟨[(2, .c (.own 2 0)), (3, .c (.own 3 0)), (9, .c (.d (dTSs l))), (10, aI l.length), (11, aI 0)], [(3, .cells [.d (.v (.slice none 0 0))] 51), (2, .cells [.d (.v (.slice none 0 0))] 51)]⟩
      else ⟨[(2, .c (.own 2 0)), (3, .c (.own 3 0)), (9, .c (.d (dTSs l))), (10, aI l.length), (11, aI i)], [(24, .arr i 55 ((l.map (tdD ∘ nTD)).take i)), (3, .cells [.gs 24 i] 51), (2, .cells [.d (.v (.slice none 0 0))] 51)]⟩) (fun i => i ≤ l.length) (fun i => l.length - i) 0 ?_ (Nat.zero_le _) ?_
  · rw [if_pos rfl]
    exact Weak.same (by simp -dsimp) (by simp -dsimp) (by first | rfl | (simp [closedSt, Av.ids, Ow.ids, Cl.ids, Go.Smd.keys]; done))
  · rintro i hi K hK
    have hpos : 0 < l.length := by cases l with | nil => exact absurd rfl hne | cons _ _ => simp
    by_cases hlt : i < l.length
    · have hw : IntKind.wrap .i64 ((i : Int) + 1) = ((i + 1 : Nat) : Int) := by rw [wrap_i64] <;> omega
      obtain ⟨nm, sc, ls, ms, hli⟩ : ∃ nm sc ls ms, l[i] = ⟨nm, .mk sc ls ms⟩ := by
        obtain ⟨nm, ⟨sc, ls, ms⟩⟩ := l[i]
        exact ⟨_, _, _, _, rfl⟩
      have hc := (atom_a _ (hg _ (List.getElem_mem hlt))).2
      rw [hli] at hc
      unfold FAtom at hc
      obtain ⟨p, q, r, e⟩ := saD_three (.mk sc ls ms)
      simp only [nA] at hc
      rw [e, atD_x] at hc
      simp only [cls_cons, cls_nil] at hc
      have he : tsD l[i] = [dS nm, p, q, r] := by rw [hli]; simp only [tsD, e]
      have et : tdD (nTD l[i]) = [dS nm, dS sc, dLTs (nLs ls), dMTs (nMs ms)] := by rw [hli]; simp only [nTD, nA, tdD_x]
      have kT : (l.map (tdD ∘ nTD)).take (i + 1) = (l.map (tdD ∘ nTD)).take i ++ [[dS nm, dS sc, dLTs (nLs ls), dMTs (nMs ms)]] := by
        rw [List.take_succ_eq_append_getElem (by simpa using hlt)]; simp [et]
      by_cases h0 : i = 0
      · subst h0
        rw [if_pos rfl]
        simp only [List.take_zero, List.nil_append, Nat.zero_add] at kT
        (repeat' (first
                                                            | (with_reducible refine br_d (fun _ => ?_) (fun _ => ?_))
                                                            | (with_reducible refine br_i (fun _ => ?_) (fun _ => ?_))
                                                            | ((with_reducible apply nd_next); (case hx => simp -dsimp [b1, hlt, he]; first | done | with_reducible rfl); (case hid => simp -dsimp [b1, hlt, he]; first | done | with_reducible rfl | exact ⟨rfl, rfl, rfl⟩ | exact ⟨rfl, rfl⟩); (case' h1 => intro _ _ _); (case' h0 => intro _))
                                                            | ((with_reducible apply nd_entry); (case hx => simp -dsimp [b1, hlt, he]; first | done | with_reducible rfl); (case hid => simp -dsimp [b1, hlt, he]; first | done | with_reducible rfl | exact ⟨rfl, rfl, rfl⟩ | exact ⟨rfl, rfl⟩))
                                                            | ((with_reducible apply nd_range); (case hx => simp -dsimp [b1, hlt, he]; with_reducible rfl); (case hT => simp -dsimp [b1, hlt, he]); (case hnd => assumption); (case hz => simp -dsimp [b1, hlt, he]))
                                                            | (with_reducible refine dn_i follows_any (by kernel_rfl) ?_)
                                                            | (with_reducible exact done_eq rfl)
                                                            | (simp -dsimp [b1, hlt, he]))); (all_goals try with_reducible refine done_eq ?_)
        refine exD_p ?_
        refine aw_drawn_n follows_any [[], [0], [], [2], [], [4], [4, 5], [2, 3, 4, 5, 6], [2, 3, 4, 5, 6, 7], [0, 1, 2, 3, 4, 5, 6, 7, 8], [0, 1, 2, 3, 4, 5, 6, 7, 8, 9], [0, 1, 2, 3, 4, 5, 6, 7, 8, 9, 10]] [0, 1, 2, 3, 4, 5, 6, 7, 8, 9, 10, 11] [8, 9, 11] [([], ⟨[(15, ?m15u5), (16, ?m16u5), (17, ?m17u5), (18, ?m18u5), (19, ?m19u5), (20, ?m20u5), (21, ?m21u5), (22, ?m22u5), (23, ?m23u5), (24, ?m24u5), (25, ?m25u5)], ?bu5, ?o0u5⟩), ([8], ⟨[(15, ?m15u5), (16, ?m16u5), (17, ?m17u5), (18, ?m18u5), (19, ?m19u5), (20, ?m20u5), (21, ?m21u5), (22, ?m22u5), (23, ?m23u5), (24, ?m24u5), (25, ?m25u5)], ?bu5, ?o1u5⟩), ([8, 9], ⟨[(15, ?m15u5), (16, ?m16u5), (17, ?m17u5), (18, ?m18u5), (19, ?m19u5), (20, ?m20u5), (21, ?m21u5), (22, ?m22u5), (23, ?m23u5), (24, ?m24u5), (25, ?m25u5)], ?bu5, ?o2u5⟩), ([8, 9, 11], ⟨[(15, ?m15u5), (16, ?m16u5), (17, ?m17u5), (18, ?m18u5), (19, ?m19u5), (20, ?m20u5), (21, ?m21u5), (22, ?m22u5), (23, ?m23u5), (24, ?m24u5), (25, ?m25u5)], ?bu5, ?o3u5⟩)] ?hoku5 rfl rfl ?hbu5 ?hou5 ?hstu5 ?hku5
        case' hbu5 => rfl
        case' hou5 => rfl
        case' hstu5 => refine ⟨⟨?v0u5, ?s0u5⟩, ⟨⟨?v1u5, ?s1u5⟩, ⟨⟨?v2u5, ?s2u5⟩, ⟨⟨?v3u5, ?s3u5⟩, True.intro⟩⟩⟩⟩
        case v0u5 =>
          refine ⟨.inr ⟨_, rfl, effN_self (eff_v rfl rfl (by simp -dsimp [valT, b1, hlt, he, toDs] <;> with_reducible rfl))⟩, ?_⟩
          refine ⟨.inr ⟨_, rfl, effN_self (eff_v rfl rfl (by simp -dsimp [valT, b1, hlt, he, toDs] <;> with_reducible rfl))⟩, ?_⟩
          refine ⟨.inr ⟨_, rfl, effN_self (eff_v rfl rfl (by simp -dsimp [valT, b1, hlt, he, toDs] <;> with_reducible rfl))⟩, ?_⟩
          refine ⟨.inr ⟨_, rfl, effN_self (eff_v rfl rfl (by simp -dsimp [valT, b1, hlt, he, toDs] <;> with_reducible rfl))⟩, ?_⟩
          refine ⟨.inr ⟨_, rfl, effN_self (eff_v rfl rfl (by simp -dsimp [valT, b1, hlt, he, toDs] <;> with_reducible rfl))⟩, ?_⟩
          refine ⟨.inr ⟨_, rfl, effN_self (eff_v rfl rfl (by simp -dsimp [valT, b1, hlt, he, toDs] <;> with_reducible rfl))⟩, ?_⟩
          refine ⟨.inr ⟨_, rfl, effN_self (eff_c (d := 21) (hc) rfl rfl rfl (by simp -dsimp [valT, b1, hlt, he, toDs] <;> (first | done | rfl | exact ⟨rfl, rfl⟩ | exact ⟨rfl, rfl, rfl⟩)) (by simp -dsimp [valT, b1, hlt, he, toDs]) (by simp -dsimp [valT, b1, hlt, he, toDs] <;> with_reducible rfl))⟩, ?_⟩
          refine ⟨.inr ⟨_, rfl, effN_self (eff_v rfl rfl (by simp -dsimp [valT, b1, hlt, he, toDs] <;> with_reducible rfl))⟩, ?_⟩
          refine ⟨.inl (by kernel_rfl), ?_⟩
          refine ⟨.inl (by kernel_rfl), ?_⟩
          refine ⟨.inl (by kernel_rfl), ?_⟩
          refine ⟨.inl (by kernel_rfl), ?_⟩
          exact True.intro
        case s0u5 =>
          refine ⟨.inr ⟨_, _, rfl, rfl, effN_of (eff_w (hdk := rfl) (hW := rfl) (hq := by simp -dsimp [valT, b1, hlt, he, toDs] <;> (first | done | rfl | exact ⟨rfl, rfl⟩ | exact ⟨rfl, rfl, rfl⟩)) (hoo := rfl) (hv := by simp -dsimp [valT, b1, hlt, he, toDs] <;> with_reducible rfl)) (by simp -dsimp [valT, canonO, insO, b1, hlt, he, toDs] <;> with_reducible rfl)⟩, ?_⟩
          refine ⟨.inl (by kernel_rfl), ?_⟩
          refine ⟨.inl (by kernel_rfl), ?_⟩
          exact True.intro
        case v1u5 =>
          refine ⟨.inr ⟨_, rfl, effN_self (eff_v rfl rfl (by simp -dsimp [valT, b1, hlt, he, toDs] <;> with_reducible rfl))⟩, ?_⟩
          refine ⟨.inr ⟨_, rfl, effN_self (eff_v rfl rfl (by simp -dsimp [valT, b1, hlt, he, toDs] <;> with_reducible rfl))⟩, ?_⟩
          refine ⟨.inl (by kernel_rfl), ?_⟩
          refine ⟨.inl (by kernel_rfl), ?_⟩
          refine ⟨.inl (by kernel_rfl), ?_⟩
          refine ⟨.inl (by kernel_rfl), ?_⟩
          refine ⟨.inl (by kernel_rfl), ?_⟩
          refine ⟨.inl (by kernel_rfl), ?_⟩
          refine ⟨.inl (by kernel_rfl), ?_⟩
          refine ⟨.inl (by kernel_rfl), ?_⟩
          refine ⟨.inl (by kernel_rfl), ?_⟩
          refine ⟨.inl (by kernel_rfl), ?_⟩
          exact True.intro
        case s1u5 =>
          refine ⟨.inl (by kernel_rfl), ?_⟩
          refine ⟨.inr ⟨_, _, rfl, rfl, effN_of (eff_w (hdk := rfl) (hW := rfl) (hq := by simp -dsimp [valT, b1, hlt, he, toDs] <;> (first | done | rfl | exact ⟨rfl, rfl⟩ | exact ⟨rfl, rfl, rfl⟩)) (hoo := rfl) (hv := by simp -dsimp [valT, b1, hlt, he, toDs] <;> with_reducible rfl)) (by simp -dsimp [valT, canonO, insO, b1, hlt, he, toDs] <;> with_reducible rfl)⟩, ?_⟩
          refine ⟨.inl (by kernel_rfl), ?_⟩
          exact True.intro
        case v2u5 =>
          refine ⟨.inl (by kernel_rfl), ?_⟩
          refine ⟨.inl (by kernel_rfl), ?_⟩
          refine ⟨.inl (by kernel_rfl), ?_⟩
          refine ⟨.inl (by kernel_rfl), ?_⟩
          refine ⟨.inl (by kernel_rfl), ?_⟩
          refine ⟨.inl (by kernel_rfl), ?_⟩
          refine ⟨.inl (by kernel_rfl), ?_⟩
          refine ⟨.inl (by kernel_rfl), ?_⟩
          refine ⟨.inl (by kernel_rfl), ?_⟩
          refine ⟨.inl (by kernel_rfl), ?_⟩
          refine ⟨.inr ⟨_, rfl, effN_self (eff_v rfl rfl (by simp -dsimp [valT, b1, hlt, he, toDs] <;> with_reducible rfl))⟩, ?_⟩
          refine ⟨.inl (by kernel_rfl), ?_⟩
          exact True.intro
        case s2u5 =>
          refine ⟨.inl (by kernel_rfl), ?_⟩
          refine ⟨.inl (by kernel_rfl), ?_⟩
          refine ⟨.inr ⟨_, _, rfl, rfl, effN_of (eff_w (hdk := rfl) (hW := rfl) (hq := by simp -dsimp [valT, b1, hlt, he, toDs] <;> (first | done | rfl | exact ⟨rfl, rfl⟩ | exact ⟨rfl, rfl, rfl⟩)) (hoo := rfl) (hv := by simp -dsimp [valT, b1, hlt, he, toDs] <;> with_reducible rfl)) (by simp -dsimp [valT, canonO, insO, b1, hlt, he, toDs] <;> with_reducible rfl)⟩, ?_⟩
          exact True.intro
        case v3u5 =>
          refine ⟨.inl (by kernel_rfl), ?_⟩
          refine ⟨.inl (by kernel_rfl), ?_⟩
          refine ⟨.inl (by kernel_rfl), ?_⟩
          refine ⟨.inl (by kernel_rfl), ?_⟩
          refine ⟨.inl (by kernel_rfl), ?_⟩
          refine ⟨.inl (by kernel_rfl), ?_⟩
          refine ⟨.inl (by kernel_rfl), ?_⟩
          refine ⟨.inl (by kernel_rfl), ?_⟩
          refine ⟨.inl (by kernel_rfl), ?_⟩
          refine ⟨.inl (by kernel_rfl), ?_⟩
          refine ⟨.inl (by kernel_rfl), ?_⟩
          refine ⟨.inl (by kernel_rfl), ?_⟩
          exact True.intro
        case s3u5 =>
          refine ⟨.inl (by kernel_rfl), ?_⟩
          refine ⟨.inl (by kernel_rfl), ?_⟩
          refine ⟨.inl (by kernel_rfl), ?_⟩
          exact True.intro
        case hoku5 => kernel_rfl
        refine ⟨rfl, ?_⟩
        (repeat' (first
                                                            | (with_reducible refine br_d (fun _ => ?_) (fun _ => ?_))
                                                            | (with_reducible refine br_i (fun _ => ?_) (fun _ => ?_))
                                                            | ((with_reducible apply nd_next); (case hx => simp -dsimp [w1]; first | done | with_reducible rfl); (case hid => simp -dsimp [w1]; first | done | with_reducible rfl | exact ⟨rfl, rfl, rfl⟩ | exact ⟨rfl, rfl⟩); (case' h1 => intro _ _ _); (case' h0 => intro _))
                                                            | ((with_reducible apply nd_entry); (case hx => simp -dsimp [w1]; first | done | with_reducible rfl); (case hid => simp -dsimp [w1]; first | done | with_reducible rfl | exact ⟨rfl, rfl, rfl⟩ | exact ⟨rfl, rfl⟩))
                                                            | ((with_reducible apply nd_range); (case hx => simp -dsimp [w1]; with_reducible rfl); (case hT => simp -dsimp [w1]); (case hnd => assumption); (case hz => simp -dsimp [w1]))
                                                            | (with_reducible refine dn_i follows_any (by kernel_rfl) ?_)
                                                            | (with_reducible exact done_eq rfl)
                                                            | (simp -dsimp [w1]))); (all_goals try with_reducible refine done_eq ?_)
        refine hK _ 1 ?_ (by omega) (by omega)
        rw [if_neg (by decide), kT]
        exact Weak.same (by simp -dsimp) (by simp -dsimp) (by first | rfl | (simp [closedSt, Av.ids, Ow.ids, Cl.ids, Go.Smd.keys]; done))
      · rw [if_neg h0]
        obtain ⟨R, hR⟩ : ∃ R, R = (l.map (tdD ∘ nTD)).take i := ⟨_, rfl⟩
        have hRl : R.length = i := by rw [hR]; simp; omega
        rw [← hR] at kT ⊢
        have hb : (i + 1) * 80 ≤ 140737488351232 := by omega
        (repeat' (first
                                                            | (with_reducible refine br_d (fun _ => ?_) (fun _ => ?_))
                                                            | (with_reducible refine br_i (fun _ => ?_) (fun _ => ?_))
                                                            | ((with_reducible apply nd_next); (case hx => simp -dsimp [b1, hlt, he, hw]; first | done | with_reducible rfl); (case hid => simp -dsimp [b1, hlt, he, hw]; first | done | with_reducible rfl | exact ⟨rfl, rfl, rfl⟩ | exact ⟨rfl, rfl⟩); (case' h1 => intro _ _ _); (case' h0 => intro _))
                                                            | ((with_reducible apply nd_entry); (case hx => simp -dsimp [b1, hlt, he, hw]; first | done | with_reducible rfl); (case hid => simp -dsimp [b1, hlt, he, hw]; first | done | with_reducible rfl | exact ⟨rfl, rfl, rfl⟩ | exact ⟨rfl, rfl⟩))
                                                            | ((with_reducible apply nd_range); (case hx => simp -dsimp [b1, hlt, he, hw]; with_reducible rfl); (case hT => simp -dsimp [b1, hlt, he, hw]); (case hnd => assumption); (case hz => simp -dsimp [b1, hlt, he, hw]))
                                                            | (with_reducible refine dn_i follows_any (by kernel_rfl) ?_)
                                                            | (with_reducible exact done_eq rfl)
                                                            | (simp -dsimp [b1, hlt, he, hw]))); (all_goals try with_reducible refine done_eq ?_)
        refine exD_p ?_
        refine aw_drawn_n follows_any [[], [0], [], [2], [], [4], [4, 5], [2, 3, 4, 5, 6], [2, 3, 4, 5, 6, 7], [0, 1, 2, 3, 4, 5, 6, 7, 8], [0, 1, 2, 3, 4, 5, 6, 7, 8, 9], [0, 1, 2, 3, 4, 5, 6, 7, 8, 9, 10]] [0, 1, 2, 3, 4, 5, 6, 7, 8, 9, 10, 11] [8, 9, 11] [([], ⟨[(15, ?m15u6), (16, ?m16u6), (17, ?m17u6), (18, ?m18u6), (19, ?m19u6), (20, ?m20u6), (21, ?m21u6), (22, ?m22u6), (23, ?m23u6), (24, ?m24u6), (25, ?m25u6)], ?bu6, ?o0u6⟩), ([8], ⟨[(15, ?m15u6), (16, ?m16u6), (17, ?m17u6), (18, ?m18u6), (19, ?m19u6), (20, ?m20u6), (21, ?m21u6), (22, ?m22u6), (23, ?m23u6), (24, ?m24u6), (25, ?m25u6)], ?bu6, ?o1u6⟩), ([8, 9], ⟨[(15, ?m15u6), (16, ?m16u6), (17, ?m17u6), (18, ?m18u6), (19, ?m19u6), (20, ?m20u6), (21, ?m21u6), (22, ?m22u6), (23, ?m23u6), (24, ?m24u6), (25, ?m25u6)], ?bu6, ?o2u6⟩), ([8, 9, 11], ⟨[(15, ?m15u6), (16, ?m16u6), (17, ?m17u6), (18, ?m18u6), (19, ?m19u6), (20, ?m20u6), (21, ?m21u6), (22, ?m22u6), (23, ?m23u6), (24, ?m24u6), (25, ?m25u6)], ?bu6, ?o3u6⟩)] ?hoku6 rfl rfl ?hbu6 ?hou6 ?hstu6 ?hku6
        case' hbu6 => rfl
        case' hou6 => rfl
        case' hstu6 => refine ⟨⟨?v0u6, ?s0u6⟩, ⟨⟨?v1u6, ?s1u6⟩, ⟨⟨?v2u6, ?s2u6⟩, ⟨⟨?v3u6, ?s3u6⟩, True.intro⟩⟩⟩⟩
        case v0u6 =>
          refine ⟨.inr ⟨_, rfl, effN_self (eff_v rfl rfl (by simp -dsimp [valT, b1, hlt, he, toDs, hRl, hb] <;> with_reducible rfl))⟩, ?_⟩
          refine ⟨.inr ⟨_, rfl, effN_self (eff_v rfl rfl (by simp -dsimp [valT, b1, hlt, he, toDs, hRl, hb] <;> with_reducible rfl))⟩, ?_⟩
          refine ⟨.inr ⟨_, rfl, effN_self (eff_v rfl rfl (by simp -dsimp [valT, b1, hlt, he, toDs, hRl, hb] <;> with_reducible rfl))⟩, ?_⟩
          refine ⟨.inr ⟨_, rfl, effN_self (eff_v rfl rfl (by simp -dsimp [valT, b1, hlt, he, toDs, hRl, hb] <;> with_reducible rfl))⟩, ?_⟩
          refine ⟨.inr ⟨_, rfl, effN_self (eff_v rfl rfl (by simp -dsimp [valT, b1, hlt, he, toDs, hRl, hb] <;> with_reducible rfl))⟩, ?_⟩
          refine ⟨.inr ⟨_, rfl, effN_self (eff_v rfl rfl (by simp -dsimp [valT, b1, hlt, he, toDs, hRl, hb] <;> with_reducible rfl))⟩, ?_⟩
          refine ⟨.inr ⟨_, rfl, effN_self (eff_c (d := 21) (hc) rfl rfl rfl (by simp -dsimp [valT, b1, hlt, he, toDs, hRl, hb] <;> (first | done | rfl | exact ⟨rfl, rfl⟩ | exact ⟨rfl, rfl, rfl⟩)) (by simp -dsimp [valT, b1, hlt, he, toDs, hRl, hb]) (by simp -dsimp [valT, b1, hlt, he, toDs, hRl, hb] <;> with_reducible rfl))⟩, ?_⟩
          refine ⟨.inr ⟨_, rfl, effN_self (eff_v rfl rfl (by simp -dsimp [valT, b1, hlt, he, toDs, hRl, hb] <;> with_reducible rfl))⟩, ?_⟩
          refine ⟨.inl (by kernel_rfl), ?_⟩
          refine ⟨.inl (by kernel_rfl), ?_⟩
          refine ⟨.inl (by kernel_rfl), ?_⟩
          refine ⟨.inl (by kernel_rfl), ?_⟩
          exact True.intro
        case s0u6 =>
          refine ⟨.inr ⟨_, _, rfl, rfl, effN_of (eff_w (hdk := rfl) (hW := rfl) (hq := by simp -dsimp [valT, b1, hlt, he, toDs, hRl, hb] <;> (first | done | rfl | exact ⟨rfl, rfl⟩ | exact ⟨rfl, rfl, rfl⟩)) (hoo := rfl) (hv := by simp -dsimp [valT, b1, hlt, he, toDs, hRl, hb] <;> with_reducible rfl)) (by simp -dsimp [valT, canonO, insO, b1, hlt, he, toDs, hRl, hb] <;> with_reducible rfl)⟩, ?_⟩
          refine ⟨.inl (by kernel_rfl), ?_⟩
          refine ⟨.inl (by kernel_rfl), ?_⟩
          exact True.intro
        case v1u6 =>
          refine ⟨.inr ⟨_, rfl, effN_self (eff_v rfl rfl (by simp -dsimp [valT, b1, hlt, he, toDs, hRl, hb] <;> with_reducible rfl))⟩, ?_⟩
          refine ⟨.inr ⟨_, rfl, effN_self (eff_v rfl rfl (by simp -dsimp [valT, b1, hlt, he, toDs, hRl, hb] <;> with_reducible rfl))⟩, ?_⟩
          refine ⟨.inl (by kernel_rfl), ?_⟩
          refine ⟨.inl (by kernel_rfl), ?_⟩
          refine ⟨.inl (by kernel_rfl), ?_⟩
          refine ⟨.inl (by kernel_rfl), ?_⟩
          refine ⟨.inl (by kernel_rfl), ?_⟩
          refine ⟨.inl (by kernel_rfl), ?_⟩
          refine ⟨.inl (by kernel_rfl), ?_⟩
          refine ⟨.inl (by kernel_rfl), ?_⟩
          refine ⟨.inl (by kernel_rfl), ?_⟩
          refine ⟨.inl (by kernel_rfl), ?_⟩
          exact True.intro
        case s1u6 =>
          refine ⟨.inl (by kernel_rfl), ?_⟩
          refine ⟨.inr ⟨_, _, rfl, rfl, effN_of (eff_w (hdk := rfl) (hW := rfl) (hq := by simp -dsimp [valT, b1, hlt, he, toDs, hRl, hb] <;> (first | done | rfl | exact ⟨rfl, rfl⟩ | exact ⟨rfl, rfl, rfl⟩)) (hoo := rfl) (hv := by simp -dsimp [valT, b1, hlt, he, toDs, hRl, hb] <;> with_reducible rfl)) (by simp -dsimp [valT, canonO, insO, b1, hlt, he, toDs, hRl, hb] <;> with_reducible rfl)⟩, ?_⟩
          refine ⟨.inl (by kernel_rfl), ?_⟩
          exact True.intro
        case v2u6 =>
          refine ⟨.inl (by kernel_rfl), ?_⟩
          refine ⟨.inl (by kernel_rfl), ?_⟩
          refine ⟨.inl (by kernel_rfl), ?_⟩
          refine ⟨.inl (by kernel_rfl), ?_⟩
          refine ⟨.inl (by kernel_rfl), ?_⟩
          refine ⟨.inl (by kernel_rfl), ?_⟩
          refine ⟨.inl (by kernel_rfl), ?_⟩
          refine ⟨.inl (by kernel_rfl), ?_⟩
          refine ⟨.inl (by kernel_rfl), ?_⟩
          refine ⟨.inl (by kernel_rfl), ?_⟩
          refine ⟨.inr ⟨_, rfl, effN_self (eff_v rfl rfl (by simp -dsimp [valT, b1, hlt, he, toDs, hRl, hb] <;> with_reducible rfl))⟩, ?_⟩
          refine ⟨.inl (by kernel_rfl), ?_⟩
          exact True.intro
        case s2u6 =>
          refine ⟨.inl (by kernel_rfl), ?_⟩
          refine ⟨.inl (by kernel_rfl), ?_⟩
          refine ⟨.inr ⟨_, _, rfl, rfl, effN_of (eff_w (hdk := rfl) (hW := rfl) (hq := by simp -dsimp [valT, b1, hlt, he, toDs, hRl, hb] <;> (first | done | rfl | exact ⟨rfl, rfl⟩ | exact ⟨rfl, rfl, rfl⟩)) (hoo := rfl) (hv := by simp -dsimp [valT, b1, hlt, he, toDs, hRl, hb] <;> with_reducible rfl)) (by simp -dsimp [valT, canonO, insO, b1, hlt, he, toDs, hRl, hb] <;> with_reducible rfl)⟩, ?_⟩
          exact True.intro
        case v3u6 =>
          refine ⟨.inl (by kernel_rfl), ?_⟩
          refine ⟨.inl (by kernel_rfl), ?_⟩
          refine ⟨.inl (by kernel_rfl), ?_⟩
          refine ⟨.inl (by kernel_rfl), ?_⟩
          refine ⟨.inl (by kernel_rfl), ?_⟩
          refine ⟨.inl (by kernel_rfl), ?_⟩
          refine ⟨.inl (by kernel_rfl), ?_⟩
          refine ⟨.inl (by kernel_rfl), ?_⟩
          refine ⟨.inl (by kernel_rfl), ?_⟩
          refine ⟨.inl (by kernel_rfl), ?_⟩
          refine ⟨.inl (by kernel_rfl), ?_⟩
          refine ⟨.inl (by kernel_rfl), ?_⟩
          exact True.intro
        case s3u6 =>
          refine ⟨.inl (by kernel_rfl), ?_⟩
          refine ⟨.inl (by kernel_rfl), ?_⟩
          refine ⟨.inl (by kernel_rfl), ?_⟩
          exact True.intro
        case hoku6 => kernel_rfl
        refine ⟨rfl, ?_⟩
        (repeat' (first
                                                            | (with_reducible refine br_d (fun _ => ?_) (fun _ => ?_))
                                                            | (with_reducible refine br_i (fun _ => ?_) (fun _ => ?_))
                                                            | ((with_reducible apply nd_next); (case hx => simp -dsimp [hw]; first | done | with_reducible rfl); (case hid => simp -dsimp [hw]; first | done | with_reducible rfl | exact ⟨rfl, rfl, rfl⟩ | exact ⟨rfl, rfl⟩); (case' h1 => intro _ _ _); (case' h0 => intro _))
                                                            | ((with_reducible apply nd_entry); (case hx => simp -dsimp [hw]; first | done | with_reducible rfl); (case hid => simp -dsimp [hw]; first | done | with_reducible rfl | exact ⟨rfl, rfl, rfl⟩ | exact ⟨rfl, rfl⟩))
                                                            | ((with_reducible apply nd_range); (case hx => simp -dsimp [hw]; with_reducible rfl); (case hT => simp -dsimp [hw]); (case hnd => assumption); (case hz => simp -dsimp [hw]))
                                                            | (with_reducible refine dn_i follows_any (by kernel_rfl) ?_)
                                                            | (with_reducible exact done_eq rfl)
                                                            | (simp -dsimp [hw]))); (all_goals try with_reducible refine done_eq ?_)
        refine hK _ (i + 1) ?_ (by omega) (by omega)
        rw [if_neg (by omega), kT]
        exact Weak.same (by simp -dsimp) (by simp -dsimp) (by first | rfl | (simp [closedSt, Av.ids, Ow.ids, Cl.ids, Go.Smd.keys]; done))
    · have hi2 : i = l.length := by omega
      subst hi2
      rw [if_neg (by omega), List.take_of_length_le (by simp)]
      (repeat' (first
                                                            | (with_reducible refine br_d (fun _ => ?_) (fun _ => ?_))
                                                            | (with_reducible refine br_i (fun _ => ?_) (fun _ => ?_))
                                                            | ((with_reducible apply nd_next); (case hx => simp -dsimp [b1]; first | done | with_reducible rfl); (case hid => simp -dsimp [b1]; first | done | with_reducible rfl | exact ⟨rfl, rfl, rfl⟩ | exact ⟨rfl, rfl⟩); (case' h1 => intro _ _ _); (case' h0 => intro _))
                                                            | ((with_reducible apply nd_entry); (case hx => simp -dsimp [b1]; first | done | with_reducible rfl); (case hid => simp -dsimp [b1]; first | done | with_reducible rfl | exact ⟨rfl, rfl, rfl⟩ | exact ⟨rfl, rfl⟩))
                                                            | ((with_reducible apply nd_range); (case hx => simp -dsimp [b1]; with_reducible rfl); (case hT => simp -dsimp [b1]); (case hnd => assumption); (case hz => simp -dsimp [b1]))
                                                            | (with_reducible refine dn_i follows_any (by kernel_rfl) ?_)
                                                            | (with_reducible exact done_eq rfl)
                                                            | (simp -dsimp [b1]))); (all_goals try with_reducible refine done_eq ?_)
      simp only [dTDs, List.map_map]
theorem fromSchema_e : ACalls Try.prog 69 [.c (.d (.pt [dTSs []]))] (fun r => r = .agg [.d (dTDs [])]) := by
  refine acalls_ex [(5, ([], [(0, []), (1, []), (2, []), (3, []), (4, []), (5, []), (6, []), (7, []), (8, []), (9, []), (10, []), (11, [])]))] Try.func69 (by kernel_rfl) rfl Try.ntmps69 Try.results69 (Nat.le_of_ble_eq_true (by kernel_rfl)) ?_; intro hok w0 S0
  clear hok
  (repeat' (first
                                                            | (with_reducible refine br_d (fun _ => ?_) (fun _ => ?_))
                                                            | (with_reducible refine br_i (fun _ => ?_) (fun _ => ?_))
                                                            | ((with_reducible apply nd_next); (case hx => simp -dsimp; first | done | with_reducible rfl); (case hid => simp -dsimp; first | done | with_reducible rfl | exact ⟨rfl, rfl, rfl⟩ | exact ⟨rfl, rfl⟩); (case' h1 => intro _ _ _); (case' h0 => intro _))
                                                            | ((with_reducible apply nd_entry); (case hx => simp -dsimp; first | done | with_reducible rfl); (case hid => simp -dsimp; first | done | with_reducible rfl | exact ⟨rfl, rfl, rfl⟩ | exact ⟨rfl, rfl⟩))
                                                            | ((with_reducible apply nd_range); (case hx => simp -dsimp; with_reducible rfl); (case hT => simp -dsimp); (case hnd => assumption); (case hz => simp -dsimp))
                                                            | (with_reducible refine dn_i follows_any (by kernel_rfl) ?_)
                                                            | (with_reducible exact done_eq rfl)
                                                            | (simp -dsimp))); (all_goals try with_reducible refine done_eq ?_)
  refine ex_loop (fun _ : Unit => ⟨[(2, .c (.own 2 0)), (3, .c (.own 3 0)), (9, .c (.d (dTSs []))), (10, aI 0), (11, aI 0)], [(3, .cells [.d (.v (.slice none 0 0))] 51), (2, .cells [.d (.v (.slice none 0 0))] 51)]⟩) (fun _ => True) (fun _ => 0) () ?_ trivial ?_
  · exact Weak.same (by simp -dsimp) (by simp -dsimp) (by first | rfl | (simp [closedSt, Av.ids, Ow.ids, Cl.ids, Go.Smd.keys]; done))
  · rintro _ _ K hK
    (repeat' (first
                                                            | (with_reducible refine br_d (fun _ => ?_) (fun _ => ?_))
                                                            | (with_reducible refine br_i (fun _ => ?_) (fun _ => ?_))
                                                            | ((with_reducible apply nd_next); (case hx => simp -dsimp; first | done | with_reducible rfl); (case hid => simp -dsimp; first | done | with_reducible rfl | exact ⟨rfl, rfl, rfl⟩ | exact ⟨rfl, rfl⟩); (case' h1 => intro _ _ _); (case' h0 => intro _))
                                                            | ((with_reducible apply nd_entry); (case hx => simp -dsimp; first | done | with_reducible rfl); (case hid => simp -dsimp; first | done | with_reducible rfl | exact ⟨rfl, rfl, rfl⟩ | exact ⟨rfl, rfl⟩))
                                                            | ((with_reducible apply nd_range); (case hx => simp -dsimp; with_reducible rfl); (case hT => simp -dsimp); (case hnd => assumption); (case hz => simp -dsimp))
                                                            | (with_reducible refine dn_i follows_any (by kernel_rfl) ?_)
                                                            | (with_reducible exact done_eq rfl)
                                                            | (simp -dsimp))); (all_goals try with_reducible refine done_eq ?_)
theorem fromSchema_a (l : List TD) (hl : l.length * 80 ≤ 140737488351232) (hg : ∀ t ∈ l, gA t.a) : ACalls Try.prog 69 [.c (.d (.pt [dTSs l]))] (fun r => r = .agg [.d (dTDs (l.map nTD))]) := by
  by_cases h : l = []
  · subst h; exact fromSchema_e
  · exact fromSchema_d l hl hg h
theorem copySchema_a (l m : List TD) (hl : l.length * 80 ≤ 140737488351232) (hg : ∀ t ∈ l, gA t.a) (hm : m.length * 80 ≤ 140737488351232) (hgm : ∀ t ∈ m, gA t.a) : ACalls Try.prog 26 [.agg [.d (dTDs l)], .agg [.d (dTDs m)]] (fun r => r = .agg [.d (dTDs (l.map nTD))]) := by
  have h1 := toSchema_a l hl hg
  have h2 := fromSchema_a l hl hg
  by_cases h : m = []
  · subst h
    refine acalls_ex [] Try.func26 (by kernel_rfl) rfl Try.ntmps26 Try.results26 (Nat.le_of_ble_eq_true (by kernel_rfl)) ?_; intro hok w0 S0
    clear hok
    (repeat' (first
                                                            | (with_reducible refine br_d (fun _ => ?_) (fun _ => ?_))
                                                            | (with_reducible refine br_i (fun _ => ?_) (fun _ => ?_))
                                                            | ((with_reducible apply nd_q (ρ := []) 7 (toSchema_0)); (case hc => simp -dsimp <;> first | exact ⟨rfl, rfl, rfl⟩ | exact ⟨rfl, rfl⟩ | done); (case hx => simp -dsimp <;> with_reducible rfl); (case ho => simp -dsimp); (case hh => simp -dsimp); (case hb => simp -dsimp))
                                                            | (with_reducible refine nd_v (h1) (by first | rfl | (simp -dsimp; done)) ?_)
                                                            | (with_reducible refine nw_v (h1) rfl (by first | rfl | (simp -dsimp; done)) (by first | rfl | (simp -dsimp; done)) ?_)
                                                            | ((with_reducible apply nd_q (ρ := [(1000000000, 8007)]) 7 (copyInto_0 l)); (case hc => simp -dsimp <;> first | exact ⟨rfl, rfl, rfl⟩ | exact ⟨rfl, rfl⟩ | done); (case hx => simp -dsimp <;> with_reducible rfl); (case ho => simp -dsimp); (case hh => simp -dsimp); (case hb => simp -dsimp))
                                                            | (with_reducible refine nd_v (h2) (by first | rfl | (simp -dsimp; done)) ?_)
                                                            | (with_reducible refine nw_v (h2) rfl (by first | rfl | (simp -dsimp; done)) (by first | rfl | (simp -dsimp; done)) ?_)
                                                            | ((with_reducible apply nd_next); (case hx => simp -dsimp; first | done | with_reducible rfl); (case hid => simp -dsimp; first | done | with_reducible rfl | exact ⟨rfl, rfl, rfl⟩ | exact ⟨rfl, rfl⟩); (case' h1 => intro _ _ _); (case' h0 => intro _))
                                                            | ((with_reducible apply nd_entry); (case hx => simp -dsimp; first | done | with_reducible rfl); (case hid => simp -dsimp; first | done | with_reducible rfl | exact ⟨rfl, rfl, rfl⟩ | exact ⟨rfl, rfl⟩))
                                                            | ((with_reducible apply nd_range); (case hx => simp -dsimp; with_reducible rfl); (case hT => simp -dsimp); (case hnd => assumption); (case hz => simp -dsimp))
                                                            | (with_reducible refine dn_i follows_any (by kernel_rfl) ?_)
                                                            | (with_reducible exact done_eq rfl)
                                                            | (simp -dsimp))); (all_goals try with_reducible refine done_eq ?_)
  · have h3 := toSchema_w m hm hgm h
    refine acalls_ex [] Try.func26 (by kernel_rfl) rfl Try.ntmps26 Try.results26 (Nat.le_of_ble_eq_true (by kernel_rfl)) ?_; intro hok w0 S0
    clear hok
    (repeat' (first
                                                            | (with_reducible refine br_d (fun _ => ?_) (fun _ => ?_))
                                                            | (with_reducible refine br_i (fun _ => ?_) (fun _ => ?_))
                                                            | (with_reducible refine nd_v (h1) (by first | rfl | (simp -dsimp; done)) ?_)
                                                            | (with_reducible refine nw_v (h1) rfl (by first | rfl | (simp -dsimp; done)) (by first | rfl | (simp -dsimp; done)) ?_)
                                                            | ((with_reducible apply nd_q (ρ := []) 7 (h3)); (case hc => simp -dsimp <;> first | exact ⟨rfl, rfl, rfl⟩ | exact ⟨rfl, rfl⟩ | done); (case hx => simp -dsimp <;> with_reducible rfl); (case ho => simp -dsimp); (case hh => simp -dsimp); (case hb => simp -dsimp))
                                                            | ((with_reducible apply nd_q (ρ := [(1000000000, 8007), (1000000001, 8027)]) 7 (copyInto_w l m.length (m.map tsD))); (case hc => simp -dsimp <;> first | exact ⟨rfl, rfl, rfl⟩ | exact ⟨rfl, rfl⟩ | done); (case hx => simp -dsimp <;> with_reducible rfl); (case ho => simp -dsimp); (case hh => simp -dsimp); (case hb => simp -dsimp))
                                                            | (with_reducible refine nd_v (h2) (by first | rfl | (simp -dsimp; done)) ?_)
                                                            | (with_reducible refine nw_v (h2) rfl (by first | rfl | (simp -dsimp; done)) (by first | rfl | (simp -dsimp; done)) ?_)
                                                            | ((with_reducible apply nd_next); (case hx => simp -dsimp; first | done | with_reducible rfl); (case hid => simp -dsimp; first | done | with_reducible rfl | exact ⟨rfl, rfl, rfl⟩ | exact ⟨rfl, rfl⟩); (case' h1 => intro _ _ _); (case' h0 => intro _))
                                                            | ((with_reducible apply nd_entry); (case hx => simp -dsimp; first | done | with_reducible rfl); (case hid => simp -dsimp; first | done | with_reducible rfl | exact ⟨rfl, rfl, rfl⟩ | exact ⟨rfl, rfl⟩))
                                                            | ((with_reducible apply nd_range); (case hx => simp -dsimp; with_reducible rfl); (case hT => simp -dsimp); (case hnd => assumption); (case hz => simp -dsimp))
                                                            | (with_reducible refine dn_i follows_any (by kernel_rfl) ?_)
                                                            | (with_reducible exact done_eq rfl)
                                                            | (simp -dsimp))); (all_goals try with_reducible refine done_eq ?_)
end Go.Smd
end
