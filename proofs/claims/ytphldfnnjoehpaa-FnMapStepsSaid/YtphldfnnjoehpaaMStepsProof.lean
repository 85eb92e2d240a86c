/- The law FnMapSteps holds of every map, keys, values and marks. -/
import Derived.Test.YtphldfnnjoehpaaAt4
import Derived.Test.YtphldfnnjoehpaaAo
namespace Go.Proofs.Ytphldfnnjoehpaa
open Go.Smd Go.RowKit Go.Proofs Go.ChangeShapes Go.WideShapes Go.ChangeAt

instance : Inhabited GV := ⟨.mk 0 0 0 ⟨#[]⟩ [] []⟩

set_option maxRecDepth 100000 in
theorem mapSteps_lifted (os : Os) (started : os.Started) (H : Type) (enc : TypeId × Value → H) :
    ReturnsInHanded {} Try.checked os 11 .any (Rows.fnMapStepsSpec.pre6 enc Try.prog Try.f11 Rows.fnMapStepsRow.domain false) (Rows.fnMapStepsSpec.post enc Try.prog Try.f11 false true false false) := by
  refine law_lift Try.func11 rfl rfl (by decide +kernel) (by kernel_rfl) started (fun ds h => ?_)
    (ChangeSpec.witness6 (enc := enc) (C := Try.checked) false ⟨#[], #[.agg #[.int .i64 0, .int .i64 0, .float .f64 0, .string ⟨#[]⟩, .slice none 0 0, .slice none 0 0], .slice none 0 0, .slice none 0 0, .slice none 0 0], []⟩ 8 (by kernel_rfl) (by kernel_rfl) (by kernel_rfl) (by kernel_rfl)) ?_
  · match ds, h with
    | [d1, d2, d3, d4], _ => rfl
  · intro W args ds p hA hw hval
    obtain ⟨base, hval⟩ := hval
    rw [Try.params11] at hA hw hval
    obtain ⟨v1, vs1, d1, ds1, p1, q1, e1, rfl, rfl, t1, hA⟩ := trodAll_cons hA
    obtain ⟨v2, vs2, d2, ds2, p2, q2, rfl, rfl, rfl, t2, hA⟩ := trodAll_cons hA
    obtain ⟨v3, vs3, d3, ds3, p3, q3, rfl, rfl, rfl, t3, hA⟩ := trodAll_cons hA
    obtain ⟨v4, vs4, d4, ds4, p4, q4, rfl, rfl, rfl, t4, hA⟩ := trodAll_cons hA
    obtain ⟨rfl, rfl, rfl⟩ := trodAll_nil hA
    have ea : args = #[v1, v2, v3, v4] := by rw [← Array.toArray_toList (xs := args), e1]
    subst ea
    simp only [DataW.weightsEach] at hw
    have hw : Light (DataW.weights Try.prog 26 d1 ++ (DataW.weights Try.prog 23 d2 ++ (DataW.weights Try.prog 24 d3 ++ (DataW.weights Try.prog 78 d4 ++ [])))) := hw
    have w1 := hw.append.1
    have w2 := hw.append.2.append.1
    have w3 := hw.append.2.append.2.append.1
    have w4 := hw.append.2.append.2.append.2.append.1
    obtain ⟨_, _, _, h2⟩ := okWide_slice Try.underlying23 (hval 1 23 v2 rfl rfl)
    obtain ⟨_, _, _, h3⟩ := okWide_slice Try.underlying24 (hval 2 24 v3 rfl rfl)
    obtain ⟨_, _, _, h4⟩ := okWide_slice Try.underlying78 (hval 3 78 v4 rfl rfl)
    obtain ⟨a, ra⟩ := open_agg t1 w1 (fun n => opens_val) (fun g => by simp)
    obtain ⟨ks, _, e2, rk⟩ := open_one t2 w2 (fun n => opens_slice Try.underlying23 (fun s => by simp) fun m _ => opens_str Try.underlying9) (fun l => ⟨_, rfl⟩) (fun cs h => by rw [h2] at h; cases h)
    obtain ⟨xs, _, e3, rx⟩ := open_one t3 w3 (fun n => opens_slice Try.underlying24 (fun s => by simp) fun m _ => opens_val) (fun l => ⟨_, rfl⟩) (fun cs h => by rw [h3] at h; cases h)
    obtain ⟨bs, _, e4, rb⟩ := open_one t4 w4 (fun n => opens_slice Try.underlying78 (fun s => by simp) fun m _ => opens_bool Try.underlying4) (fun l => ⟨_, rfl⟩) (fun cs h => by rw [h4] at h; cases h)
    cases e2; cases e3; cases e4
    exact law_walk (mapSteps_a a ks xs bs) (.cons ra (.cons rk (.cons rx (.cons rb .nil))))

theorem mapSteps_holds : Rows.FnMapStepsSaid :=
  OpenClaim.holds_of_wide 11 Try.f11 rfl rfl rfl rfl rfl rfl rfl ⟨rfl, rfl, rfl, rfl, rfl⟩ rfl rfl rfl rfl rfl (by kernel_rfl) Try.func11 (by kernel_rfl)
    (of_decide_eq_true (by kernel_rfl)) (by unfold Func.isWrapper; first | (rw [if_pos (by decide +kernel)]; kernel_rfl) | (rw [if_neg (by decide +kernel)]; exact ⟨rfl, rfl⟩))
    (fun os started H enc _ => mapSteps_lifted os started H enc)
#print axioms mapSteps_holds
end Go.Proofs.Ytphldfnnjoehpaa
