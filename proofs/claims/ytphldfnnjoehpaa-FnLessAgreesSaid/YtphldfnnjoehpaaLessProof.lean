/- The law FnLessAgrees holds of every two values: LessValues is true exactly where CompareValues is -1, EqualValues exactly where it is 0, and every value equals itself (values without NaN and without whole numbers beyond 2^53). -/
import Derived.Test.YtphldfnnjoehpaaVm
import Derived.Test.YtphldfnnjoehpaaLaw
import Derived.Test.YtphldfnnjoehpaaOpen
import Derived.Test.YtphldfnnjoehpaaAo
namespace Go.Proofs.Ytphldfnnjoehpaa
open Go.Smd Go.RowKit Go.Proofs Go.ChangeShapes Go.WideShapes Go.ChangeAt

set_option maxRecDepth 100000 in
theorem lessAgrees_lifted (os : Os) (started : os.Started) (H : Type) (enc : TypeId × Value → H) :
    ReturnsInHanded {} Try.checked os 13 .any (Rows.fnLessAgreesSpec.pre6 enc Try.prog Try.f13 Rows.fnLessAgreesRow.domain false) (Rows.fnLessAgreesSpec.post enc Try.prog Try.f13 false true false false) := by
  refine law_lift Try.func13 rfl rfl (by decide +kernel) (by kernel_rfl) started (fun ds h => ?_)
    (ChangeSpec.witness6 (enc := enc) (C := Try.checked) false ⟨#[], #[.agg #[.int .i64 0, .int .i64 0, .float .f64 0, .string ⟨#[]⟩, .slice none 0 0, .slice none 0 0], .agg #[.int .i64 0, .int .i64 0, .float .f64 0, .string ⟨#[]⟩, .slice none 0 0, .slice none 0 0]], []⟩ 8 (by kernel_rfl) (by kernel_rfl) (by kernel_rfl) (by kernel_rfl)) ?_
  · match ds, h with
    | [d1, d2], _ => rfl
  · intro W args ds p hA hw hval
    rw [Try.params13] at hA hw
    obtain ⟨v1, vs1, d1, ds1, p1, q1, e1, rfl, rfl, t1, hA⟩ := trodAll_cons hA
    obtain ⟨v2, vs2, d2, ds2, p2, q2, rfl, rfl, rfl, t2, hA⟩ := trodAll_cons hA
    obtain ⟨rfl, rfl, rfl⟩ := trodAll_nil hA
    have ea : args = #[v1, v2] := by rw [← Array.toArray_toList (xs := args), e1]
    subst ea
    simp only [DataW.weightsEach] at hw
    have hw : Light (DataW.weights Try.prog 26 d1 ++ (DataW.weights Try.prog 26 d2 ++ [])) := hw
    have w1 := hw.append.1
    have w2 := hw.append.2.append.1
    obtain ⟨a, ra⟩ := open_agg t1 w1 (fun n => opens_val) (fun g => by simp)
    obtain ⟨b, rb⟩ := open_agg t2 w2 (fun n => opens_val) (fun g => by simp)
    exact law_walk (lessAgrees_a a b) (.cons ra (.cons rb .nil))

theorem lessAgrees_holds : Rows.FnLessAgreesSaid :=
  OpenClaim.holds_of_wide 13 Try.f13 rfl rfl rfl rfl rfl rfl rfl ⟨rfl, rfl, rfl, rfl, rfl⟩ rfl rfl rfl rfl rfl (by kernel_rfl) Try.func13 (by kernel_rfl)
    (of_decide_eq_true (by kernel_rfl)) (by unfold Func.isWrapper; first | (rw [if_pos (by decide +kernel)]; kernel_rfl) | (rw [if_neg (by decide +kernel)]; exact ⟨rfl, rfl⟩))
    (fun os started H enc _ => lessAgrees_lifted os started H enc)
#print axioms lessAgrees_holds
end Go.Proofs.Ytphldfnnjoehpaa
