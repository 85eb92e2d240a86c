/- The law FnMapSize holds of every value: the number of keys that the library counts in the map is the number of fields of the map's plain form, and 'empty' agrees with it. -/
import Derived.Test.YtphldfnnjoehpaaMSize
import Derived.Test.YtphldfnnjoehpaaOpen
import Derived.Test.YtphldfnnjoehpaaLaw
namespace Go.Proofs.Ytphldfnnjoehpaa
open Go.Smd Go.RowKit Go.Proofs Go.ChangeShapes Go.WideShapes Go.ChangeAt

set_option maxRecDepth 100000 in
theorem mapSize_lifted (os : Os) (started : os.Started) (H : Type) (enc : TypeId × Value → H) :
    ReturnsInHanded {} Try.checked os 3 .any (Rows.fnMapSizeSpec.pre6 enc Try.prog Try.f3 Rows.fnMapSizeRow.domain false) (Rows.fnMapSizeSpec.post enc Try.prog Try.f3 false true false false) := by
  refine law_lift Try.func3 rfl rfl (by decide +kernel) (by kernel_rfl) started (fun ds h => ?_)
    (ChangeSpec.witness6 (enc := enc) (C := Try.checked) false ⟨#[], #[.agg #[.int .i64 0, .int .i64 0, .float .f64 0, .string ⟨#[]⟩, .slice none 0 0, .slice none 0 0]], []⟩ 8 (by kernel_rfl) (by kernel_rfl) (by kernel_rfl) (by kernel_rfl)) ?_
  · match ds, h with
    | [d], _ => rfl
  · intro W args ds p hA hw
    rw [Try.params3] at hA hw
    obtain ⟨v, d, rfl, rfl, hd⟩ := trodAll_one hA
    obtain ⟨g, cs, rfl, hg⟩ := open_arg hd (fun x hx => hw x (by simp only [DataW.weightsEach]; exact List.mem_append_left _ hx))
    exact fnMapSize_c g cs W _ hg

theorem mapSize_holds : Rows.FnMapSizeSaid :=
  OpenClaim.holds_of_wide 3 Try.f3 rfl rfl rfl rfl rfl rfl rfl ⟨rfl, rfl, rfl, rfl, rfl⟩ rfl rfl rfl rfl rfl (by kernel_rfl) Try.func3 (by kernel_rfl)
    (of_decide_eq_true (by kernel_rfl)) (by unfold Func.isWrapper; first | (rw [if_pos (by decide +kernel)]; kernel_rfl) | (rw [if_neg (by decide +kernel)]; exact ⟨rfl, rfl⟩))
    (fun os started H enc _ => mapSize_lifted os started H enc)
#print axioms mapSize_holds
end Go.Proofs.Ytphldfnnjoehpaa
