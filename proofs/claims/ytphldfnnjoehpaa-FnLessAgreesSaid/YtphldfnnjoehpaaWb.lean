/- Contracts: values made and asked. -/
import Derived.Test.YtphldfnnjoehpaaWa
namespace Go.Smd
open Go.RowKit Go.Proofs

theorem allocV_c (p : Value) (w : World) :
    Calls Try.prog 111 #[p] w fun e w' => e = .returned (.pointer (some ⟨w.heap.size, 0, none⟩)) ∧ w.alloc (.cells #[.nilIface] 216) = w' := by
  go_enter Try.func111, Try.ntmps111
  go_wp2
  go_ret
  exact ⟨rfl, rfl⟩

theorem reuse_c (a : Nat) (x old : Value) (w : World) (hf : x = .nilIface ∨ ∃ T y, x = .iface T y) (hc : w.cell? ⟨a, 0, none⟩ = some old) (hz : w.frozen? ⟨a, 0, none⟩ = false) :
    Calls Try.prog 112 #[.pointer (some ⟨a, 0, none⟩), x] w fun e w' => e = .returned (.iface 193 (.pointer (some ⟨a, 0, none⟩))) ∧ w.setCell ⟨a, 0, none⟩ x = w' := by
  rcases hf with rfl | ⟨T, y, rfl⟩
  all_goals
    go_enter Try.func112, Try.ntmps112
    go_wp2
    go_ret
    exact ⟨rfl, rfl⟩

set_option maxHeartbeats 400000 in
theorem newV_c (x : Value) (t : Tree) (w : World) (S : Nat → Prop) (hx : RepT w S t x) :
    Calls Try.prog 89 #[x] w (Makes (fun W v => RepV W (fun b => S b ∨ w.heap.size < b) t v) w) := by
  have Hx := Lib.hid hx
  have fin : ∀ W, Ext w W → W.cell? ⟨w.heap.size + 1, 0, none⟩ = some x → Makes (fun W v => RepV W (fun b => S b ∨ w.heap.size < b) t v) w (.returned (.iface 193 (.pointer (some ⟨w.heap.size + 1, 0, none⟩)))) W :=
    fun W e h => ⟨_, rfl, ⟨_, _, rfl, Or.inr (Nat.lt_succ_self _), h, (Hx.out.ext e).mono fun _ => Or.inl⟩, e⟩
  have HF := Lib.hid fin; clear fin
  rcases hx.form with rfl | ⟨T, y, rfl⟩
  all_goals
    go_enter Try.func89, Try.ntmps89
    go_wp2
    go_ret
    refine HF.out _ ?_ ?_
    · exact ((Ext.refl _).alloc _).alloc _
    · simp [go_sem]
end Go.Smd
