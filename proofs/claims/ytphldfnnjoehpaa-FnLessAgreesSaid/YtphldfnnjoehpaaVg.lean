/- Numbers, bools, strings compared, by value. -/
import Derived.Test.YtphldfnnjoehpaaMs
import Derived.Test.YtphldfnnjoehpaaVd
import Derived.Test.YtphldfnnjoehpaaVc
import Derived.Test.YtphldfnnjoehpaaBase
import Derived.Lib.Bytealg
set_option linter.unusedSimpArgs false
set_option maxRecDepth 100000
set_option maxHeartbeats 8000000
namespace Go.Smd
open Go.RowKit Go.Proofs

/-- Numbers compared. -/
def cmpI (a b : Int) : Int := if b < a then 1 else if a < b then -1 else 0
theorem intCompare_a (a b : Int) : ACalls Try.prog 125 [aV (.int .i64 a), aV (.int .i64 b)] (fun r => r = aV (.int .i64 (cmpI a b))) := by
  refine acalls_ex [] Try.func125 (by kernel_rfl) rfl Try.ntmps125 Try.results125 (Nat.le_of_ble_eq_true (by kernel_rfl)) ?_; intro hok w0 S0
  (repeat' (first
                                                            | (with_reducible refine br_d (fun _ => ?_) (fun _ => ?_))
                                                            | (with_reducible refine br_i (fun _ => ?_) (fun _ => ?_))
                                                            | ((with_reducible apply nd_next); (case hx => simp -dsimp; first | done | with_reducible rfl); (case hid => simp -dsimp; first | done | with_reducible rfl | exact ⟨rfl, rfl, rfl⟩ | exact ⟨rfl, rfl⟩); (case' h1 => intro _ _ _); (case' h0 => intro _))
                                                            | ((with_reducible apply nd_entry); (case hx => simp -dsimp; first | done | with_reducible rfl); (case hid => simp -dsimp; first | done | with_reducible rfl | exact ⟨rfl, rfl, rfl⟩ | exact ⟨rfl, rfl⟩))
                                                            | ((with_reducible apply nd_range); (case hx => simp -dsimp; with_reducible rfl); (case hT => simp -dsimp); (case hnd => assumption); (case hz => simp -dsimp))
                                                            | (with_reducible refine dn_i follows_any (by kernel_rfl) ?_)
                                                            | (with_reducible exact done_eq rfl)
                                                            | (simp -dsimp))); (all_goals try with_reducible refine done_eq ?_)
  · have h : b < a := by assumption
    unfold cmpI; rw [if_pos h]
  · have h : ¬ b < a := by assumption
    have h' : a < b := by assumption
    unfold cmpI; rw [if_neg h, if_pos h']
  · have h : ¬ b < a := by assumption
    have h' : ¬ a < b := by assumption
    unfold cmpI; rw [if_neg h, if_neg h']
def cmpB : Bool → Bool → Int
  | false, true => -1
  | true, false => 1
  | _, _ => 0
theorem boolCompare_a (a b : Bool) : ACalls Try.prog 127 [aV (.bool a), aV (.bool b)] (fun r => r = aV (.int .i64 (cmpB a b))) := by
  cases a <;> cases b
  all_goals
    refine acalls_ex [] Try.func127 (by kernel_rfl) rfl Try.ntmps127 Try.results127 (Nat.le_of_ble_eq_true (by kernel_rfl)) ?_; intro hok w0 S0
    (repeat' (first
                                                            | (with_reducible refine br_d (fun _ => ?_) (fun _ => ?_))
                                                            | (with_reducible refine br_i (fun _ => ?_) (fun _ => ?_))
                                                            | ((with_reducible apply nd_next); (case hx => simp -dsimp; first | done | with_reducible rfl); (case hid => simp -dsimp; first | done | with_reducible rfl | exact ⟨rfl, rfl, rfl⟩ | exact ⟨rfl, rfl⟩); (case' h1 => intro _ _ _); (case' h0 => intro _))
                                                            | ((with_reducible apply nd_entry); (case hx => simp -dsimp; first | done | with_reducible rfl); (case hid => simp -dsimp; first | done | with_reducible rfl | exact ⟨rfl, rfl, rfl⟩ | exact ⟨rfl, rfl⟩))
                                                            | ((with_reducible apply nd_range); (case hx => simp -dsimp; with_reducible rfl); (case hT => simp -dsimp); (case hnd => assumption); (case hz => simp -dsimp))
                                                            | (with_reducible refine dn_i follows_any (by kernel_rfl) ?_)
                                                            | (with_reducible exact done_eq rfl)
                                                            | (simp -dsimp))); (all_goals try with_reducible refine done_eq ?_)
    all_goals rfl
/-- Floating-point numbers, as bit patterns, compared. -/
def cmpFl (a b : Nat) : Int := if (FloatKind.f64.format.order a b == some .gt) = true then 1 else if (FloatKind.f64.format.order a b == some .lt) = true then -1 else 0
theorem floatCompare_a (a b : Nat) : ACalls Try.prog 124 [aV (.float .f64 a), aV (.float .f64 b)] (fun r => r = aV (.int .i64 (cmpFl a b))) := by
  refine acalls_ex [] Try.func124 (by kernel_rfl) rfl Try.ntmps124 Try.results124 (Nat.le_of_ble_eq_true (by kernel_rfl)) ?_; intro hok w0 S0
  (repeat' (first
                                                            | (with_reducible refine br_d (fun _ => ?_) (fun _ => ?_))
                                                            | (with_reducible refine br_i (fun _ => ?_) (fun _ => ?_))
                                                            | ((with_reducible apply nd_next); (case hx => simp -dsimp; first | done | with_reducible rfl); (case hid => simp -dsimp; first | done | with_reducible rfl | exact ⟨rfl, rfl, rfl⟩ | exact ⟨rfl, rfl⟩); (case' h1 => intro _ _ _); (case' h0 => intro _))
                                                            | ((with_reducible apply nd_entry); (case hx => simp -dsimp; first | done | with_reducible rfl); (case hid => simp -dsimp; first | done | with_reducible rfl | exact ⟨rfl, rfl, rfl⟩ | exact ⟨rfl, rfl⟩))
                                                            | ((with_reducible apply nd_range); (case hx => simp -dsimp; with_reducible rfl); (case hT => simp -dsimp); (case hnd => assumption); (case hz => simp -dsimp))
                                                            | (with_reducible refine dn_i follows_any (by kernel_rfl) ?_)
                                                            | (with_reducible exact done_eq rfl)
                                                            | (simp -dsimp))); (all_goals try with_reducible refine done_eq ?_)
  · rename_i h
    unfold cmpFl; rw [if_pos h]
  · rename_i h h'
    unfold cmpFl; rw [if_neg (by rw [h]; simp), if_pos h']
  · rename_i h h'
    unfold cmpFl; rw [if_neg (by rw [h]; simp), if_neg (by rw [h']; simp)]
set_option maxHeartbeats 1000000 in
theorem cmpString_c (a b : ByteArray) (w : World) : Calls Try.prog 132 #[.string a, .string b] w fun e w' => e = .returned (.int .i64 (Lib.compareBytes a.data.toList b.data.toList)) ∧ w' = w := by
  go_enter Try.func132, Try.ntmps132
  go_wp2
  rw [run_callFunc_extern Try.func136 (by kernel_rfl) (by kernel_rfl) (by kernel_rfl) (e := Extern.BytealgCompare.compare) (by kernel_rfl), Lib.run_compareString]
  simp only [Result.andThen]
  rw [Oper.upon_value]
  go_wp2
  go_ret
  exact ⟨rfl, rfl⟩
theorem cmpBytes_in : ∀ l m : List UInt8, Lib.compareBytes l m = -1 ∨ Lib.compareBytes l m = 0 ∨ Lib.compareBytes l m = 1
  | [], [] => by simp [Lib.compareBytes]
  | [], _ :: _ => by simp [Lib.compareBytes]
  | _ :: _, [] => by simp [Lib.compareBytes]
  | x :: l, y :: m => by
    have := cmpBytes_in l m
    simp only [Lib.compareBytes]
    repeat' split
    all_goals first | exact this | simp
theorem cmpString_a (a b : ByteArray) : ACalls Try.prog 132 [aV (.string a), aV (.string b)] (fun r => r = aV (.int .i64 (Lib.compareBytes a.data.toList b.data.toList))) := by
  refine ⟨⟨_, Try.func132, by kernel_rfl, by kernel_rfl⟩, fun w S vs hS ha => ?_⟩
  cases ha with
  | cons h1 t => cases t with
    | cons h2 t => cases t with
      | nil =>
        obtain ⟨rfl, _⟩ := rep_v h1
        obtain ⟨rfl, _⟩ := rep_v h2
        refine (cmpString_c a b w).mono ?_
        rintro e w' ⟨rfl, rfl⟩
        exact ⟨_, _, rfl, rfl, rep_raw (by rcases cmpBytes_in a.data.toList b.data.toList with h | h | h <;> rw [h] <;> rfl), Ext.refl _⟩
theorem strCompare_a (a b : ByteArray) : ACalls Try.prog 126 [aV (.string a), aV (.string b)] (fun r => r = aV (.int .i64 (Lib.compareBytes a.data.toList b.data.toList))) := by
  refine acalls_ex [] Try.func126 (by kernel_rfl) rfl Try.ntmps126 Try.results126 (Nat.le_of_ble_eq_true (by kernel_rfl)) ?_; intro hok w0 S0
  (repeat' (first
                                                            | (with_reducible refine br_d (fun _ => ?_) (fun _ => ?_))
                                                            | (with_reducible refine br_i (fun _ => ?_) (fun _ => ?_))
                                                            | (with_reducible refine nd_v (cmpString_a a b) (by first | rfl | (simp -dsimp; done)) ?_)
                                                            | (with_reducible refine nw_v (cmpString_a a b) rfl (by first | rfl | (simp -dsimp; done)) (by first | rfl | (simp -dsimp; done)) ?_)
                                                            | ((with_reducible apply nd_next); (case hx => simp -dsimp; first | done | with_reducible rfl); (case hid => simp -dsimp; first | done | with_reducible rfl | exact ⟨rfl, rfl, rfl⟩ | exact ⟨rfl, rfl⟩); (case' h1 => intro _ _ _); (case' h0 => intro _))
                                                            | ((with_reducible apply nd_entry); (case hx => simp -dsimp; first | done | with_reducible rfl); (case hid => simp -dsimp; first | done | with_reducible rfl | exact ⟨rfl, rfl, rfl⟩ | exact ⟨rfl, rfl⟩))
                                                            | ((with_reducible apply nd_range); (case hx => simp -dsimp; with_reducible rfl); (case hT => simp -dsimp); (case hnd => assumption); (case hz => simp -dsimp))
                                                            | (with_reducible refine dn_i follows_any (by kernel_rfl) ?_)
                                                            | (with_reducible exact done_eq rfl)
                                                            | (simp -dsimp))); (all_goals try with_reducible refine done_eq ?_)
  all_goals rfl
end Go.Smd
