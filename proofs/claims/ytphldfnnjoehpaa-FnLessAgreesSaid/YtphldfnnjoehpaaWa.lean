/- Contracts: sizes, values made, simple methods. -/
import Derived.Test.YtphldfnnjoehpaaBase
namespace Go.Smd
open Go.RowKit Go.Proofs

/-! ### zzFits2, zzFits5 -/
def fits2 (ss : List ByteArray) : Bool := decide (ss.length ≤ 2147483647) && ss.all fun s => decide (s.size ≤ 2147483647)
def fits5 : GV → Bool
  | .mk _ _ _ s keys l => decide (s.size ≤ 2147483647) && fits2 keys && decide (l.length ≤ 2147483647)

set_option maxHeartbeats 400000 in
theorem zzFits2_c (a : Option Addr) (c : Nat) (ss : List ByteArray) (w : World) (hm : ss.length * 16 ≤ 140737488351232) (hs : ∀ s ∈ ss, s.size ≤ 140737488351232) (S : Nat → Prop) (hr : RepStrs S w a ss) :
    Calls Try.prog 44 #[.slice a ss.length c] w (Gives (.bool (fits2 ss)) w) := by
  obtain ⟨n, hn⟩ : ∃ n, ss.length = n := ⟨_, rfl⟩
  have Hn := Lib.hid hn; rw [hn] at hm ⊢; clear hn
  by_cases hlt : 2147483647 < n
  · go_enter Try.func44, Try.ntmps44
    go_wp2
    go_ret
    have : fits2 ss = false := by unfold fits2; rw [Hn.out, decide_eq_false (show ¬ n ≤ 2147483647 by omega)]; rfl
    exact Gives.bool this.symm
  · go_enter Try.func44, Try.ntmps44
    go_wp2
    go_loop [4, 10] (fun s i => ∃ k : Nat, k ≤ n ∧ i = .int .i64 k ∧ Hid (∀ s ∈ ss.take k, s.size ≤ 2147483647)) (fun _ i => n - (intOf i).toNat)
    case atStart => exact ⟨0, Nat.zero_le _, rfl, fun s h => by simp at h⟩
    case round =>
      obtain ⟨k, hk, rfl, hall⟩ := hrel
      by_cases hk2 : k < n
      · obtain ⟨s, hsk⟩ : ∃ s, ss[k]? = some s := ⟨ss[k]'(by rw [Hn.out]; exact hk2), List.getElem?_eq_getElem _⟩
        obtain ⟨ad, rfl, hcell⟩ := hr.at hsk
        have hsz := hs s (List.mem_of_getElem? hsk)
        have Hs := Lib.hid hsk; clear hsk
        by_cases hsl : 2147483647 < s.size
        · go_wp2
          go_ret
          have : fits2 ss = false := by
            unfold fits2
            rw [List.all_eq_false.2 ⟨s, List.mem_of_getElem? Hs.out, by simp; omega⟩, Bool.and_false]
          exact Gives.bool this.symm
        · go_wp2
          go_round
          case rel => 
            refine ⟨k + 1, by omega, by go_num, fun x hx => ?_⟩
            rw [List.take_add_one, Hs.out] at hx
            rcases List.mem_append.1 hx with hx | hx
            · exact hall.out x hx
            · simp at hx; subst hx; omega
          case measure => simp [intOf]; omega
      · go_wp2
        go_ret
        have : fits2 ss = true := by
          unfold fits2
          rw [Hn.out, decide_eq_true (show n ≤ 2147483647 by omega), Bool.true_and, List.all_eq_true]
          intro x hx
          have := hall.out x (by rw [List.take_of_length_le (by rw [Hn.out]; omega)]; exact hx)
          simpa using this
        exact Gives.bool this.symm

set_option maxHeartbeats 400000 in
theorem zzFits5_c (v : GV) (cs : List Value) (w : World) (S : Nat → Prop) (hv : RepGV S w v cs) :
    Calls Try.prog 14 #[.agg cs.toArray] w (Makes (fun _ u => u = .bool (fits5 v)) w) := by
  obtain ⟨kind, n, f, s, keys, l⟩ := v
  obtain ⟨ka, kc, la, lc, rfl, ok, hkc, hlc, hk, hl⟩ := hv.open
  have h1 := ok.okS
  have h2 := ok.okL
  have h3 := ok.okKeys
  have hd : ∀ b, b = fits5 (.mk kind n f s keys l) → ∀ W, Ext w W → Makes (fun _ u => u = .bool (fits5 (.mk kind n f s keys l))) w (.returned (.bool b)) W := fun b hb W hW => ⟨_, rfl, by rw [hb], hW⟩
  have HD := Lib.hid hd; clear hd
  have HE := Lib.hid ok.okEach
  go_enter Try.func14, Try.ntmps14
  by_cases c1 : 2147483647 < s.size
  · go_wp2
    go_ret
    exact HD.out _ (by simp [fits5, show ¬ s.size ≤ 2147483647 by omega]) _ ((Ext.refl _).alloc _)
  by_cases c2 : fits2 keys = true
  · by_cases c3 : 2147483647 < l.length
    · go_wp2_with (go_at_call 44; refine (zzFits2_c _ _ _ _ h3 HE.out S (hk.ext ((Ext.refl _).alloc _))).mono ?_; rintro e w' ⟨rfl, rfl⟩)
      go_ret
      exact HD.out _ (by simp [fits5, show ¬ l.length ≤ 2147483647 by omega]) _ ((Ext.refl _).alloc _)
    · go_wp2_with (go_at_call 44; refine (zzFits2_c _ _ _ _ h3 HE.out S (hk.ext ((Ext.refl _).alloc _))).mono ?_; rintro e w' ⟨rfl, rfl⟩)
      go_ret
      exact HD.out _ (by simp [fits5, c2, show s.size ≤ 2147483647 by omega, show l.length ≤ 2147483647 by omega]) _ ((Ext.refl _).alloc _)
  · go_wp2_with (go_at_call 44; refine (zzFits2_c _ _ _ _ h3 HE.out S (hk.ext ((Ext.refl _).alloc _))).mono ?_; rintro e w' ⟨rfl, rfl⟩)
    go_ret
    exact HD.out _ (by simp [fits5, c2]) _ ((Ext.refl _).alloc _)
end Go.Smd
