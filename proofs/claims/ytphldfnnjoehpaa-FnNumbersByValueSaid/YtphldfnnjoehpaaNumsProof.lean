/- The law FnNumbersByValue holds of every integer and every float: the library compares the two numbers by value, from either side, and calls them equal just where they compare as equal. -/
import Derived.Test.YtphldfnnjoehpaaNums
import Derived.Test.YtphldfnnjoehpaaOpen
import Derived.Test.YtphldfnnjoehpaaLaw
namespace Go.Proofs.Ytphldfnnjoehpaa
open Go.Smd Go.RowKit Go.Proofs Go.ChangeShapes Go.WideShapes Go.ChangeAt

set_option maxRecDepth 100000 in
theorem numbers_lifted (os : Os) (started : os.Started) (H : Type) (enc : TypeId × Value → H) :
    ReturnsInHanded {} Try.checked os 12 .any (Rows.fnNumbersByValueSpec.pre6 enc Try.prog Try.f12 Rows.fnNumbersByValueRow.domain false) (Rows.fnNumbersByValueSpec.post enc Try.prog Try.f12 false true false false) := by
  refine law_lift Try.func12 rfl rfl (by decide +kernel) (by kernel_rfl) started (fun ds h => ?_)
    (ChangeSpec.witness6 (enc := enc) (C := Try.checked) false ⟨#[], #[.int .i64 0, .float .f64 0], []⟩ 8 (by kernel_rfl) (by kernel_rfl) (by kernel_rfl) (by kernel_rfl)) ?_
  · match ds, h with
    | [d, e], _ => rfl
  · intro W args ds p hA hw hval
    obtain ⟨base, hval⟩ := hval
    rw [Try.params12] at hA hw hval
    obtain ⟨v, v', d, d', q, q', rfl, rfl, rfl, hd, hd'⟩ := trodAll_two hA
    obtain ⟨n, rfl, -, -, hr0⟩ := open_int Try.underlying2 (hval 0 2 v rfl rfl) hd
    obtain ⟨f, rfl, -, -, hr2⟩ := open_float Try.underlying22 (hval 1 22 v' rfl rfl) hd'
    refine fnNumbers_c n f W ?_ ?_
    · have := hr0; simp [Lit.wf, IntKind.min, IntKind.max, IntKind.signed, IntKind.bits] at this; omega
    · have := hr2; simp [Lit.wf] at this; omega

theorem numbers_holds : Rows.FnNumbersByValueSaid :=
  OpenClaim.holds_of_wide 12 Try.f12 rfl rfl rfl rfl rfl rfl rfl ⟨rfl, rfl, rfl, rfl, rfl⟩ rfl rfl rfl rfl rfl (by kernel_rfl) Try.func12 (by kernel_rfl)
    (of_decide_eq_true (by kernel_rfl)) (by unfold Func.isWrapper; first | (rw [if_pos (by decide +kernel)]; kernel_rfl) | (rw [if_neg (by decide +kernel)]; exact ⟨rfl, rfl⟩))
    (fun os started H enc _ => numbers_lifted os started H enc)
#print axioms numbers_holds
end Go.Proofs.Ytphldfnnjoehpaa
