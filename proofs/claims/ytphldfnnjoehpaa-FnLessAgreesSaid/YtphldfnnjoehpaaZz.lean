/- The laws' bounds on sizes, by value. -/
import Derived.Test.YtphldfnnjoehpaaMs
import Derived.Test.YtphldfnnjoehpaaAm
set_option linter.unusedSimpArgs false
set_option maxRecDepth 100000
set_option maxHeartbeats 8000000
namespace Go.Smd
open Go.RowKit Go.Proofs
abbrev aS (s : ByteArray) : Av := .c (.d (dS s))
abbrev aI (n : Int) : Av := .c (.d (dI n))
theorem raw_a {S : Nat → Prop} {w : World} {x : Value} (hx : okVb x = true) {e : Ending} {w' : World} (h : Makes (fun _ u => u = x) w e w') : ∃ v r, e = .returned v ∧ r = aV x ∧ RepA Try.prog (fun b => S b ∨ w.heap.size ≤ b) noB noH w' r v ∧ Ext w w' := by
  obtain ⟨v, rfl, rfl, hE⟩ := h
  exact ⟨_, _, rfl, rfl, rep_raw hx, hE⟩
theorem zzFits5_a (g : GV) : ACalls Try.prog 14 [gvA g] (fun r => r = aV (.bool (fits5 g))) := by
  refine ⟨⟨_, Try.func14, by kernel_rfl, rfl⟩, fun w S vs hS ha => ?_⟩
  obtain ⟨v, _, rfl, h, ha⟩ := ha.inv
  cases ha.inv0
  obtain ⟨cs, rfl, hg⟩ := gvA_iff.1 h
  exact (zzFits5_c g cs w S hg).mono fun e w' h => raw_a rfl h
end Go.Smd
