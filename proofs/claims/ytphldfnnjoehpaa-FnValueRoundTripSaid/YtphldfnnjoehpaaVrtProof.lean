/- The law FnValueRoundTrip holds of every value: what the library gives back of a value is the value in its plain form, field for field. -/
import Derived.Test.YtphldfnnjoehpaaVrt
import Derived.Test.YtphldfnnjoehpaaOpen
import Derived.Test.YtphldfnnjoehpaaLaw
namespace Go.Proofs.Ytphldfnnjoehpaa
open Go.Smd Go.RowKit Go.Proofs Go.ChangeShapes Go.WideShapes Go.ChangeAt

set_option maxRecDepth 100000 in
theorem fnValueRoundTrip_lifted (os : Os) (started : os.Started) (H : Type) (enc : TypeId × Value → H) :
    ReturnsInHanded {} Try.checked os 4 .any (Rows.fnValueRoundTripSpec.pre6 enc Try.prog Try.f4 Rows.fnValueRoundTripRow.domain false) (Rows.fnValueRoundTripSpec.post enc Try.prog Try.f4 false true false false) := by
  refine law_lift Try.func4 rfl rfl (by decide +kernel) (by kernel_rfl) started (fun ds h => ?_)
    (ChangeSpec.witness6 (enc := enc) (C := Try.checked) false ⟨#[], #[.agg #[.int .i64 0, .int .i64 0, .float .f64 0, .string ⟨#[]⟩, .slice none 0 0, .slice none 0 0]], []⟩ 8 (by kernel_rfl) (by kernel_rfl) (by kernel_rfl) (by kernel_rfl)) ?_
  · match ds, h with
    | [d], _ => rfl
  · intro W args ds p hA hw _
    rw [Try.params4] at hA hw
    obtain ⟨v, d, rfl, rfl, hd⟩ := trodAll_one hA
    obtain ⟨g, cs, rfl, hg⟩ := open_arg hd (fun x hx => hw x (by simp only [DataW.weightsEach]; exact List.mem_append_left _ hx))
    exact fnRound_c g cs W _ hg

theorem fnValueRoundTrip_holds : Rows.FnValueRoundTripSaid :=
  OpenClaim.holds_of_wide 4 Try.f4 rfl rfl rfl rfl rfl rfl rfl ⟨rfl, rfl, rfl, rfl, rfl⟩ rfl rfl rfl rfl rfl (by kernel_rfl) Try.func4 (by kernel_rfl)
    (of_decide_eq_true (by kernel_rfl)) (by unfold Func.isWrapper; first | (rw [if_pos (by decide +kernel)]; kernel_rfl) | (rw [if_neg (by decide +kernel)]; exact ⟨rfl, rfl⟩))
    (fun os started H enc _ => fnValueRoundTrip_lifted os started H enc)
#print axioms fnValueRoundTrip_holds
end Go.Proofs.Ytphldfnnjoehpaa
