/- Part 13 of the proof: Mt Va Vb Vd Sort Ve Vf Ar Vj. -/
import Derived.Test.YtphldfnnjoehpaaQZ11
import Derived.Test.YtphldfnnjoehpaaQZ09
import Derived.Test.YtphldfnnjoehpaaQZ08
import Derived.Test.YtphldfnnjoehpaaQZ07
import Derived.Test.YtphldfnnjoehpaaQZ12
import Derived.Test.YtphldfnnjoehpaaQZ10
import Derived.Test.YtphldfnnjoehpaaQZ02
import Derived.Test.YtphldfnnjoehpaaQZ01
import Derived.Lib.Bytealg
import Derived.Laws.FloatBits
set_option linter.unusedVariables false
section
set_option linter.unusedSimpArgs false
namespace Go.Smd
open Go.RowKit Go.Proofs
@[simp] theorem meth_0 : Try.prog.meth 193 "AsBool" = some (157, false) := by kernel_rfl
@[simp] theorem meth_1 : Try.prog.meth 193 "AsFloat" = some (158, false) := by kernel_rfl
@[simp] theorem meth_2 : Try.prog.meth 193 "AsInt" = some (159, false) := by kernel_rfl
@[simp] theorem meth_3 : Try.prog.meth 193 "AsList" = some (160, false) := by kernel_rfl
@[simp] theorem meth_4 : Try.prog.meth 193 "AsListUsing" = some (161, false) := by kernel_rfl
@[simp] theorem meth_5 : Try.prog.meth 193 "AsMap" = some (162, false) := by kernel_rfl
@[simp] theorem meth_6 : Try.prog.meth 193 "AsMapUsing" = some (163, false) := by kernel_rfl
@[simp] theorem meth_7 : Try.prog.meth 193 "AsString" = some (164, false) := by kernel_rfl
@[simp] theorem meth_8 : Try.prog.meth 193 "IsBool" = some (165, false) := by kernel_rfl
@[simp] theorem meth_9 : Try.prog.meth 193 "IsFloat" = some (166, false) := by kernel_rfl
@[simp] theorem meth_10 : Try.prog.meth 193 "IsInt" = some (167, false) := by kernel_rfl
@[simp] theorem meth_11 : Try.prog.meth 193 "IsList" = some (168, false) := by kernel_rfl
@[simp] theorem meth_12 : Try.prog.meth 193 "IsMap" = some (169, false) := by kernel_rfl
@[simp] theorem meth_13 : Try.prog.meth 193 "IsNull" = some (170, false) := by kernel_rfl
@[simp] theorem meth_14 : Try.prog.meth 193 "IsString" = some (171, false) := by kernel_rfl
@[simp] theorem meth_15 : Try.prog.meth 193 "Unstructured" = some (172, false) := by kernel_rfl
@[simp] theorem meth_16 : Try.prog.meth 292 "At" = some (175, false) := by kernel_rfl
@[simp] theorem meth_17 : Try.prog.meth 302 "At" = some (175, false) := by kernel_rfl
@[simp] theorem meth_18 : Try.prog.meth 292 "AtUsing" = some (176, false) := by kernel_rfl
@[simp] theorem meth_19 : Try.prog.meth 302 "AtUsing" = some (176, false) := by kernel_rfl
@[simp] theorem meth_20 : Try.prog.meth 292 "Equals" = some (177, false) := by kernel_rfl
@[simp] theorem meth_21 : Try.prog.meth 302 "Equals" = some (177, false) := by kernel_rfl
@[simp] theorem meth_22 : Try.prog.meth 292 "EqualsUsing" = some (178, false) := by kernel_rfl
@[simp] theorem meth_23 : Try.prog.meth 302 "EqualsUsing" = some (178, false) := by kernel_rfl
@[simp] theorem meth_24 : Try.prog.meth 292 "Length" = some (179, false) := by kernel_rfl
@[simp] theorem meth_25 : Try.prog.meth 302 "Length" = some (179, false) := by kernel_rfl
@[simp] theorem meth_26 : Try.prog.meth 292 "Range" = some (180, false) := by kernel_rfl
@[simp] theorem meth_27 : Try.prog.meth 302 "Range" = some (180, false) := by kernel_rfl
@[simp] theorem meth_28 : Try.prog.meth 292 "RangeUsing" = some (181, false) := by kernel_rfl
@[simp] theorem meth_29 : Try.prog.meth 302 "RangeUsing" = some (181, false) := by kernel_rfl
@[simp] theorem meth_30 : Try.prog.meth 293 "Delete" = some (183, false) := by kernel_rfl
@[simp] theorem meth_31 : Try.prog.meth 293 "Empty" = some (184, false) := by kernel_rfl
@[simp] theorem meth_32 : Try.prog.meth 293 "Equals" = some (185, false) := by kernel_rfl
@[simp] theorem meth_33 : Try.prog.meth 293 "EqualsUsing" = some (186, false) := by kernel_rfl
@[simp] theorem meth_34 : Try.prog.meth 293 "Get" = some (187, false) := by kernel_rfl
@[simp] theorem meth_35 : Try.prog.meth 293 "GetUsing" = some (188, false) := by kernel_rfl
@[simp] theorem meth_36 : Try.prog.meth 293 "Has" = some (189, false) := by kernel_rfl
@[simp] theorem meth_37 : Try.prog.meth 293 "Iterate" = some (190, false) := by kernel_rfl
@[simp] theorem meth_38 : Try.prog.meth 293 "IterateUsing" = some (191, false) := by kernel_rfl
@[simp] theorem meth_39 : Try.prog.meth 293 "Length" = some (192, false) := by kernel_rfl
@[simp] theorem meth_40 : Try.prog.meth 293 "Set" = some (193, false) := by kernel_rfl
@[simp] theorem meth_41 : Try.prog.meth 293 "Zip" = some (194, false) := by kernel_rfl
@[simp] theorem meth_42 : Try.prog.meth 293 "ZipUsing" = some (195, false) := by kernel_rfl
@[simp] theorem meth_43 : Try.prog.meth 303 "Next" = some (205, true) := by kernel_rfl
@[simp] theorem meth_44 : Try.prog.meth 305 "Next" = some (207, true) := by kernel_rfl
@[simp] theorem meth_45 : Try.prog.meth 303 "Item" = some (204, true) := by kernel_rfl
@[simp] theorem meth_46 : Try.prog.meth 305 "Item" = some (206, true) := by kernel_rfl
@[simp] theorem meth_47 : Try.prog.meth 190 "Free" = some (156, true) := by kernel_rfl
@[simp] theorem meth_48 : Try.prog.meth 190 "pub-coparcener/pub/structuredmerge/value.allocValueUnstructured" = some (111, true) := by kernel_rfl
@[simp] theorem meth_49 : Try.prog.meth 190 "pub-coparcener/pub/structuredmerge/value.allocListUnstructuredRange" = some (208, true) := by kernel_rfl
@[simp] theorem treeOk_p : treeOk Try.prog = true := by kernel_rfl
@[simp] theorem treeMap_a : Try.prog.treeMap 154 = true := by kernel_rfl
@[simp] theorem treeMap_b : Try.prog.treeMap 293 = true := by kernel_rfl
abbrev dAlloc : D := .ifc 190 (.pt [])
abbrev aAlloc : Av := .c (.d dAlloc)
abbrev dV (t : Tree) : D := .ifc 193 (.pt [.tr t])
abbrev dM (m : List (ByteArray × Tree)) : D := .ifc 293 (.mp m)
theorem idle_free (y : Value) (us : Array Value) : Idle Try.prog { target := .fn (.method "Free") #[], args := #[.iface 190 y] ++ us } :=
  idle_of (E := 192) (f := 156) (by kernel_rfl) (by kernel_rfl) Try.func156 (by kernel_rfl) rfl Try.results156 y us
theorem free_any {xs : List D} : IdleAv Try.prog "Free" (.c (.d (.ifc 190 (.pt xs)))) := fun S β h w v us hv => by
  cases (show RepD Try.prog w S (.ifc 190 (.pt xs)) v from hv) with
  | ifc hv => exact idle_free _ us.toArray
end Go.Smd
end
section
set_option linter.unusedSimpArgs false
set_option maxRecDepth 100000
set_option maxHeartbeats 4000000
namespace Go.Smd
open Go.RowKit Go.Proofs
theorem unstructured_a (t : Tree) : ACalls Try.prog 172 [.agg [.d (.tr t)]] (fun r => r = .c (.d (.tr t))) := by
  refine acalls_ex [] Try.func172 (by kernel_rfl) rfl Try.ntmps172 Try.results172 (Nat.le_of_ble_eq_true (by kernel_rfl)) ?_; intro hok w0 S0
  (repeat' (first
                                                            | (with_reducible refine br_d (fun _ => ?_) (fun _ => ?_))
                                                            | (with_reducible refine br_i (fun _ => ?_) (fun _ => ?_))
                                                            | ((with_reducible apply nd_next); (case hx => simp -dsimp; first | done | with_reducible rfl); (case hid => simp -dsimp; first | done | with_reducible rfl | exact ⟨rfl, rfl, rfl⟩ | exact ⟨rfl, rfl⟩); (case' h1 => intro _ _ _); (case' h0 => intro _))
                                                            | ((with_reducible apply nd_entry); (case hx => simp -dsimp; first | done | with_reducible rfl); (case hid => simp -dsimp; first | done | with_reducible rfl | exact ⟨rfl, rfl, rfl⟩ | exact ⟨rfl, rfl⟩))
                                                            | ((with_reducible apply nd_range); (case hx => simp -dsimp; with_reducible rfl); (case hT => simp -dsimp); (case hnd => assumption); (case hz => simp -dsimp))
                                                            | (with_reducible refine dn_i follows_any (by kernel_rfl) ?_)
                                                            | (with_reducible exact done_eq rfl)
                                                            | (simp -dsimp))); (all_goals try with_reducible refine done_eq ?_)
  all_goals rfl
end Go.Smd
end
section
set_option linter.unusedSimpArgs false
set_option maxRecDepth 100000
set_option maxHeartbeats 4000000
namespace Go.Smd
open Go.RowKit Go.Proofs
theorem reuse_p (x y : D) : AProc Try.prog 112 [.c (.own 1000000000 0), .c (.d x)] [(1000000000, .cells [.d y] 216)] (fun r own' => r = .c (.io 193 1000000000 0) ∧ own' = [(1000000000, .cells [.d x] 216)]) := by
  refine aproc_ex [] Try.func112 (by kernel_rfl) rfl Try.ntmps112 Try.results112 (Nat.le_of_ble_eq_true (by kernel_rfl)) ?_; intro hok w0 S0
  (repeat' (first
                                                            | (with_reducible refine br_d (fun _ => ?_) (fun _ => ?_))
                                                            | (with_reducible refine br_i (fun _ => ?_) (fun _ => ?_))
                                                            | ((with_reducible apply nd_next); (case hx => simp -dsimp; first | done | with_reducible rfl); (case hid => simp -dsimp; first | done | with_reducible rfl | exact ⟨rfl, rfl, rfl⟩ | exact ⟨rfl, rfl⟩); (case' h1 => intro _ _ _); (case' h0 => intro _))
                                                            | ((with_reducible apply nd_entry); (case hx => simp -dsimp; first | done | with_reducible rfl); (case hid => simp -dsimp; first | done | with_reducible rfl | exact ⟨rfl, rfl, rfl⟩ | exact ⟨rfl, rfl⟩))
                                                            | ((with_reducible apply nd_range); (case hx => simp -dsimp; with_reducible rfl); (case hT => simp -dsimp); (case hnd => assumption); (case hz => simp -dsimp))
                                                            | (with_reducible refine dn_i follows_any (by kernel_rfl) ?_)
                                                            | (with_reducible exact done_eq rfl)
                                                            | (simp -dsimp))); (all_goals try with_reducible refine done_eq ?_)
  all_goals exact ⟨rfl, rfl⟩
theorem AWp.at {P : Program} {N : Nat} {w0 : World} {S0 : Env} {c : Code} {Q : Exit → St → Prop} {σ τ : St} (h : σ = τ) (k : AWp P N w0 S0 c Q τ) : AWp P N w0 S0 c Q σ := h ▸ k
abbrev dAny (l : List Tree) : D := .sl 20 (l.map fun t => [.tr t])
abbrev cVU (y : D) : Ow := .cells [.d y] 216
end Go.Smd
end
section
set_option linter.unusedSimpArgs false
set_option maxRecDepth 100000
set_option maxHeartbeats 4000000
namespace Go.Smd
open Go.RowKit Go.Proofs
theorem length_a (m : List (ByteArray × Tree)) : ACalls Try.prog 192 [.c (.d (.mp m))] (fun r => r = aV (.int .i64 m.length)) := by
  refine acalls_ex [] Try.func192 (by kernel_rfl) rfl Try.ntmps192 Try.results192 (Nat.le_of_ble_eq_true (by kernel_rfl)) ?_; intro hok w0 S0
  (repeat' (first
                                                            | (with_reducible refine br_d (fun _ => ?_) (fun _ => ?_))
                                                            | (with_reducible refine br_i (fun _ => ?_) (fun _ => ?_))
                                                            | ((with_reducible apply nd_next); (case hx => simp -dsimp; first | done | with_reducible rfl); (case hid => simp -dsimp; first | done | with_reducible rfl | exact ⟨rfl, rfl, rfl⟩ | exact ⟨rfl, rfl⟩); (case' h1 => intro _ _ _); (case' h0 => intro _))
                                                            | ((with_reducible apply nd_entry); (case hx => simp -dsimp; first | done | with_reducible rfl); (case hid => simp -dsimp; first | done | with_reducible rfl | exact ⟨rfl, rfl, rfl⟩ | exact ⟨rfl, rfl⟩))
                                                            | ((with_reducible apply nd_range); (case hx => simp -dsimp; with_reducible rfl); (case hT => simp -dsimp); (case hnd => assumption); (case hz => simp -dsimp))
                                                            | (with_reducible refine dn_i follows_any (by kernel_rfl) ?_)
                                                            | (with_reducible exact done_eq rfl)
                                                            | (simp -dsimp))); (all_goals try with_reducible refine done_eq ?_)
  all_goals rfl
theorem has_a (m : List (ByteArray × Tree)) (hnd : (m.map (·.1)).Nodup) (k : ByteArray) : ACalls Try.prog 189 [.c (.d (.mp m)), aV (.string k)] (fun r => r = aV (.bool (mget m k).isSome)) := by
  refine acalls_ex [] Try.func189 (by kernel_rfl) rfl Try.ntmps189 Try.results189 (Nat.le_of_ble_eq_true (by kernel_rfl)) ?_; intro hok w0 S0
  (repeat' (first
                                                            | (with_reducible refine br_d (fun _ => ?_) (fun _ => ?_))
                                                            | (with_reducible refine br_i (fun _ => ?_) (fun _ => ?_))
                                                            | ((with_reducible apply nd_next); (case hx => simp -dsimp [hnd]; first | done | with_reducible rfl); (case hid => simp -dsimp [hnd]; first | done | with_reducible rfl | exact ⟨rfl, rfl, rfl⟩ | exact ⟨rfl, rfl⟩); (case' h1 => intro _ _ _); (case' h0 => intro _))
                                                            | ((with_reducible apply nd_entry); (case hx => simp -dsimp [hnd]; first | done | with_reducible rfl); (case hid => simp -dsimp [hnd]; first | done | with_reducible rfl | exact ⟨rfl, rfl, rfl⟩ | exact ⟨rfl, rfl⟩))
                                                            | ((with_reducible apply nd_range); (case hx => simp -dsimp [hnd]; with_reducible rfl); (case hT => simp -dsimp [hnd]); (case hnd => assumption); (case hz => simp -dsimp [hnd]))
                                                            | (with_reducible refine dn_i follows_any (by kernel_rfl) ?_)
                                                            | (with_reducible exact done_eq rfl)
                                                            | (simp -dsimp [hnd]))); (all_goals try with_reducible refine done_eq ?_)
  all_goals rfl
def dG : Option Tree → D
  | some t => dV t
  | none => .v .nilIface
theorem getUsing_a (m : List (ByteArray × Tree)) (hnd : (m.map (·.1)).Nodup) (k : ByteArray) : ACalls Try.prog 188 [.c (.d (.mp m)), aAlloc, aV (.string k)] (fun r => r = .tup [(false, [.d (dG (mget m k))]), (false, [.d (.v (.bool (mget m k).isSome))])]) := by
  cases hg : mget m k with
  | none =>
    refine acalls_ex [] Try.func188 (by kernel_rfl) rfl Try.ntmps188 Try.results188 (Nat.le_of_ble_eq_true (by kernel_rfl)) ?_; intro hok w0 S0
    (repeat' (first
                                                            | (with_reducible refine br_d (fun _ => ?_) (fun _ => ?_))
                                                            | (with_reducible refine br_i (fun _ => ?_) (fun _ => ?_))
                                                            | ((with_reducible apply nd_i [] (f := 111)); (case hc => simp -dsimp [hnd, hg]; first | exact ⟨rfl, rfl⟩ | exact ⟨rfl, rfl, rfl⟩); (case hf => exact Try.func111); (case hA => simp -dsimp [hnd, hg] <;> with_reducible rfl); (case hok => simp -dsimp [hnd, hg]); (case hY => simp -dsimp [hnd, hg] <;> with_reducible rfl); (case hO => simp -dsimp [hnd, hg] <;> with_reducible rfl); (case hn => kernel_rfl); (case hb => rfl); (case hN => exact Try.ntmps111); (case hrs => exact Try.results111); (case hl => exact Nat.le_of_ble_eq_true (by kernel_rfl)); intro hok w0 S0)
                                                            | ((with_reducible apply nd_next); (case hx => simp -dsimp [hnd, hg]; first | done | with_reducible rfl); (case hid => simp -dsimp [hnd, hg]; first | done | with_reducible rfl | exact ⟨rfl, rfl, rfl⟩ | exact ⟨rfl, rfl⟩); (case' h1 => intro _ _ _); (case' h0 => intro _))
                                                            | ((with_reducible apply nd_entry); (case hx => simp -dsimp [hnd, hg]; first | done | with_reducible rfl); (case hid => simp -dsimp [hnd, hg]; first | done | with_reducible rfl | exact ⟨rfl, rfl, rfl⟩ | exact ⟨rfl, rfl⟩))
                                                            | ((with_reducible apply nd_range); (case hx => simp -dsimp [hnd, hg]; with_reducible rfl); (case hT => simp -dsimp [hnd, hg]); (case hnd => assumption); (case hz => simp -dsimp [hnd, hg]))
                                                            | (with_reducible refine dn_i follows_any (by kernel_rfl) ?_)
                                                            | (with_reducible exact done_eq rfl)
                                                            | (simp -dsimp [hnd, hg]))); (all_goals try with_reducible refine done_eq ?_)
    all_goals rfl
  | some t =>
    refine acalls_ex [] Try.func188 (by kernel_rfl) rfl Try.ntmps188 Try.results188 (Nat.le_of_ble_eq_true (by kernel_rfl)) ?_; intro hok w0 S0
    (repeat' (first
                                                            | (with_reducible refine br_d (fun _ => ?_) (fun _ => ?_))
                                                            | (with_reducible refine br_i (fun _ => ?_) (fun _ => ?_))
                                                            | ((with_reducible apply nd_i [] (f := 111)); (case hc => simp -dsimp [hnd, hg]; first | exact ⟨rfl, rfl⟩ | exact ⟨rfl, rfl, rfl⟩); (case hf => exact Try.func111); (case hA => simp -dsimp [hnd, hg] <;> with_reducible rfl); (case hok => simp -dsimp [hnd, hg]); (case hY => simp -dsimp [hnd, hg] <;> with_reducible rfl); (case hO => simp -dsimp [hnd, hg] <;> with_reducible rfl); (case hn => kernel_rfl); (case hb => rfl); (case hN => exact Try.ntmps111); (case hrs => exact Try.results111); (case hl => exact Nat.le_of_ble_eq_true (by kernel_rfl)); intro hok w0 S0)
                                                            | ((with_reducible apply nd_q (ρ := [(1000000000, 20004)]) 7 (reuse_p (.tr t) (.v .nilIface))); (case hc => simp -dsimp [hnd, hg] <;> first | exact ⟨rfl, rfl, rfl⟩ | exact ⟨rfl, rfl⟩ | done); (case hx => simp -dsimp [hnd, hg] <;> with_reducible rfl); (case ho => simp -dsimp [hnd, hg]); (case hh => simp -dsimp [hnd, hg]); (case hb => simp -dsimp [hnd, hg]))
                                                            | ((with_reducible apply nd_next); (case hx => simp -dsimp [hnd, hg]; first | done | with_reducible rfl); (case hid => simp -dsimp [hnd, hg]; first | done | with_reducible rfl | exact ⟨rfl, rfl, rfl⟩ | exact ⟨rfl, rfl⟩); (case' h1 => intro _ _ _); (case' h0 => intro _))
                                                            | ((with_reducible apply nd_entry); (case hx => simp -dsimp [hnd, hg]; first | done | with_reducible rfl); (case hid => simp -dsimp [hnd, hg]; first | done | with_reducible rfl | exact ⟨rfl, rfl, rfl⟩ | exact ⟨rfl, rfl⟩))
                                                            | ((with_reducible apply nd_range); (case hx => simp -dsimp [hnd, hg]; with_reducible rfl); (case hT => simp -dsimp [hnd, hg]); (case hnd => assumption); (case hz => simp -dsimp [hnd, hg]))
                                                            | (with_reducible refine dn_i follows_any (by kernel_rfl) ?_)
                                                            | (with_reducible exact done_eq rfl)
                                                            | (simp -dsimp [hnd, hg]))); (all_goals try with_reducible refine done_eq ?_)
    all_goals rfl
abbrev fGath1 : FuncId := 202
abbrev fGath2 : FuncId := 203
abbrev tStrs : TypeId := 23
abbrev tStr : TypeId := 9
abbrev sRow (l : List ByteArray) : List (List D) := l.map fun s => [.v (.string s)]
theorem left_perm {k : ByteArray} : ∀ {left : List ByteArray}, left.Nodup → k ∈ left → left.Perm (k :: left.filter fun x => decide (x ≠ k))
  | [], _, h => by cases h
  | x :: l, hn, h => by
    rw [List.nodup_cons] at hn
    by_cases e : x = k
    · subst e
      have h1 : (l.filter fun y => decide (y ≠ x)) = l := List.filter_eq_self.2 fun y hy => by
        have : y ≠ x := fun e => hn.1 (e ▸ hy)
        simpa using this
      rw [List.filter_cons_of_neg (by simp), h1]
    · have hk : k ∈ l := by rcases List.mem_cons.1 h with h | h; exact absurd h.symm e; exact h
      rw [List.filter_cons_of_pos (by simpa using e)]
      exact ((left_perm hn.2 hk).cons x).trans (List.Perm.swap ..)
theorem AProc.drop {P : Program} {f : FuncId} {args : List Av} {own : List (Nat × Ow)} {R R' : Av → List (Nat × Ow) → Prop} (h : AProc P f args own R)
    (k : ∀ r own', R r own' → ∃ own'', R' r own'' ∧ (∀ p ∈ own'', look own' p.1 = some p.2) ∧ closedSt [] own'' = true ∧ r.plain = true) : AProc P f args own R' :=
  ⟨h.1, fun w E β vs s ha => (h.2 w E β vs s ha).mono fun e w' ⟨v, r, β', own', h1, h2, h3, h4⟩ => by
    obtain ⟨own'', g1, g2, g3, g4⟩ := k r own' h2
    obtain ⟨β'', s''⟩ := Weak.same (P := P) (N := 0) (w0 := w) (S0 := E) (σ := ⟨[], own'⟩) (tl := []) (hl := own'') (fun p hp => by cases hp) g2 g3 β' act0 w' h3
    exact ⟨v, r, β'', own'', h1, g1, s'', plain_any g4 h4⟩⟩
def gath (f : FuncId) (z : List Cl) (ver : Nat) (l : List ByteArray) (own' : List (Nat × Ow)) : Prop :=
  look own' 1000000000 = some (.clo (.fn f) (.own 1000000001 0 :: z)) ∧ look own' 1000000001 = some (.cells [.gs 1000000002 ver] tStrs) ∧ look own' 1000000002 = some (.arr ver tStr (sRow l))
def gath2 (m1 : List (ByteArray × Tree)) (ver : Nat) (l : List ByteArray) (own' : List (Nat × Ow)) : Prop :=
  look own' 1000000000 = some (.clo (.fn fGath2) [.own 1000000003 0, .own 1000000001 0]) ∧ look own' 1000000001 = some (.cells [.gs 1000000002 ver] tStrs) ∧ look own' 1000000002 = some (.arr ver tStr (sRow l)) ∧ look own' 1000000003 = some (.cells [.d (dM m1)] 88)
theorem iterate1_q (m : List (ByteArray × Tree)) (hnd : (m.map (·.1)).Nodup) (ver : Nat) (l : List ByteArray) (hl : l.length + m.length ≤ 4000000000000) :
    AProc Try.prog 191 [.c (.d (.mp m)), aAlloc, .c (.fn 1000000000)] [(1000000000, .clo (.fn fGath1) [.own 1000000001 0]), (1000000001, .cells [.gs 1000000002 ver] tStrs), (1000000002, .arr ver tStr (sRow l))]
      (fun r own' => ∃ q : List ByteArray, q.Perm (m.map (·.1)) ∧ r = aV (.bool true) ∧ gath fGath1 [] (ver + m.length) (l ++ q) own') := by
  refine aproc_ex [] Try.func191 (by kernel_rfl) rfl Try.ntmps191 Try.results191 (Nat.le_of_ble_eq_true (by kernel_rfl)) ?_; intro hok w0 S0
  (repeat' (first
                                                            | (with_reducible refine br_d (fun _ => ?_) (fun _ => ?_))
                                                            | (with_reducible refine br_i (fun _ => ?_) (fun _ => ?_))
                                                            | ((with_reducible apply nd_i [] (f := 111)); (case hc => simp -dsimp [hnd]; first | exact ⟨rfl, rfl⟩ | exact ⟨rfl, rfl, rfl⟩); (case hf => exact Try.func111); (case hA => simp -dsimp [hnd] <;> with_reducible rfl); (case hok => simp -dsimp [hnd]); (case hY => simp -dsimp [hnd] <;> with_reducible rfl); (case hO => simp -dsimp [hnd] <;> with_reducible rfl); (case hn => kernel_rfl); (case hb => rfl); (case hN => exact Try.ntmps111); (case hrs => exact Try.results111); (case hl => exact Nat.le_of_ble_eq_true (by kernel_rfl)); intro hok w0 S0)
                                                            | ((with_reducible apply nd_defer); (case hx => simp -dsimp [hnd]; with_reducible rfl); (case hd => exact free_any))
                                                            | ((with_reducible apply nd_next); (case hx => simp -dsimp [hnd]; first | done | with_reducible rfl); (case hid => simp -dsimp [hnd]; first | done | with_reducible rfl | exact ⟨rfl, rfl, rfl⟩ | exact ⟨rfl, rfl⟩); (case' h1 => intro _ _ _); (case' h0 => intro _))
                                                            | ((with_reducible apply nd_entry); (case hx => simp -dsimp [hnd]; first | done | with_reducible rfl); (case hid => simp -dsimp [hnd]; first | done | with_reducible rfl | exact ⟨rfl, rfl, rfl⟩ | exact ⟨rfl, rfl⟩))
                                                            | ((with_reducible apply nd_range); (case hx => simp -dsimp [hnd]; with_reducible rfl); (case hT => simp -dsimp [hnd]); (case hnd => assumption); (case hz => simp -dsimp [hnd]))
                                                            | (with_reducible refine dn_i follows_any (by kernel_rfl) ?_)
                                                            | (with_reducible exact done_eq rfl)
                                                            | (simp -dsimp [hnd]))); (all_goals try with_reducible refine done_eq ?_)
  · have e : m = [] := by assumption
    subst e
    exact ⟨[], List.Perm.refl _, rfl, by simp [gath, look]⟩
  · refine ex_loop (fun x : List ByteArray × List ByteArray × D × Option ByteArray => ⟨[(1, aAlloc), (2, .c (.fn 1000000000)), (7, .c (.own 15004 0)), (20, .c (.fn 20))], [(20, .clo (.it m x.1 x.2.2.2) []), (15004, cVU x.2.2.1), (1000000000, .clo (.fn fGath1) [.own 1000000001 0]), (1000000001, .cells [.gs 1000000002 (ver + x.2.1.length)] tStrs), (1000000002, .arr (ver + x.2.1.length) tStr (sRow (l ++ x.2.1)))]⟩)
      (fun x => x.1.Nodup ∧ (x.2.1 ++ x.1).Perm (m.map (·.1))) (fun x => x.1.length) (m.map (·.1), [], .v .nilIface, none) ?_ ⟨hnd, List.Perm.refl _⟩ ?_
    · exact Weak.same (by simp -dsimp [List.length_nil, Nat.add_zero, List.append_nil]) (by simp -dsimp [List.length_nil, Nat.add_zero, List.append_nil]) (by first | rfl | (simp [closedSt, Av.ids, Ow.ids, Cl.ids, Go.Smd.keys]; done))
    · rintro ⟨left, dn, y, cur⟩ ⟨hnl, hpm⟩ K hK
      dsimp only at hnl hpm hK ⊢
      have hlen := hpm.length_eq
      simp only [List.length_append, List.length_map] at hlen
      have hb : (l.length + dn.length + 1) * 16 ≤ 140737488351232 := by omega
      (repeat' (first
                                                            | (with_reducible refine br_d (fun _ => ?_) (fun _ => ?_))
                                                            | (with_reducible refine br_i (fun _ => ?_) (fun _ => ?_))
                                                            | ((with_reducible apply nd_q (ρ := [(1000000000, 15004)]) 7 (by rename_i k hk hs; exact reuse_p (.tr ((mget m k).getD .nil)) y)); (case hc => simp -dsimp [hnd, toDs, hb] <;> first | exact ⟨rfl, rfl, rfl⟩ | exact ⟨rfl, rfl⟩ | done); (case hx => simp -dsimp [hnd, toDs, hb] <;> with_reducible rfl); (case ho => simp -dsimp [hnd, toDs, hb]); (case hh => simp -dsimp [hnd, toDs, hb]); (case hb => simp -dsimp [hnd, toDs, hb]))
                                                            | ((with_reducible apply nd_i [] (f := 202)); (case hc => simp -dsimp [hnd, toDs, hb]; first | exact ⟨rfl, rfl⟩ | exact ⟨rfl, rfl, rfl⟩); (case hf => exact Try.func202); (case hA => simp -dsimp [hnd, toDs, hb] <;> with_reducible rfl); (case hok => simp -dsimp [hnd, toDs, hb]); (case hY => simp -dsimp [hnd, toDs, hb] <;> with_reducible rfl); (case hO => simp -dsimp [hnd, toDs, hb] <;> with_reducible rfl); (case hn => kernel_rfl); (case hb => rfl); (case hN => exact Try.ntmps202); (case hrs => exact Try.results202); (case hl => exact Nat.le_of_ble_eq_true (by kernel_rfl)); intro hok w0 S0)
                                                            | ((with_reducible apply nd_next); (case hx => simp -dsimp [hnd, toDs, hb]; first | done | with_reducible rfl); (case hid => simp -dsimp [hnd, toDs, hb]; first | done | with_reducible rfl | exact ⟨rfl, rfl, rfl⟩ | exact ⟨rfl, rfl⟩); (case' h1 => intro _ _ _); (case' h0 => intro _))
                                                            | ((with_reducible apply nd_entry); (case hx => simp -dsimp [hnd, toDs, hb]; first | done | with_reducible rfl); (case hid => simp -dsimp [hnd, toDs, hb]; first | done | with_reducible rfl | exact ⟨rfl, rfl, rfl⟩ | exact ⟨rfl, rfl⟩))
                                                            | ((with_reducible apply nd_range); (case hx => simp -dsimp [hnd, toDs, hb]; with_reducible rfl); (case hT => simp -dsimp [hnd, toDs, hb]); (case hnd => assumption); (case hz => simp -dsimp [hnd, toDs, hb]))
                                                            | (with_reducible refine dn_i follows_any (by kernel_rfl) ?_)
                                                            | (with_reducible exact done_eq rfl)
                                                            | (simp -dsimp [hnd, toDs, hb]))); (all_goals try with_reducible refine done_eq ?_)
      · have e : left = [] := by assumption
        subst e
        rw [List.append_nil] at hpm
        have e2 : dn.length = m.length := by simpa using hlen
        exact ⟨dn, hpm, rfl, by simp [gath, look, e2]⟩
      · rename_i k hk hs
        have hp := left_perm hnl hk
        have hp2 := hp.length_eq
        simp only [List.length_cons] at hp2
        refine hK _ (left.filter fun x => decide (x ≠ k), dn ++ [k], .tr ((mget m k).getD .nil), some k) ?_ ⟨hnl.filter _, ?_⟩ (by dsimp only; omega)
        · exact Weak.same (by simp -dsimp [Nat.add_assoc]) (by simp -dsimp [Nat.add_assoc]) (by first | rfl | (simp [closedSt, Av.ids, Ow.ids, Cl.ids, Go.Smd.keys]; done))
        · refine List.Perm.trans ?_ hpm
          rw [List.append_assoc]
          exact List.Perm.append_left dn hp.symm
abbrev notIn (m1 : List (ByteArray × Tree)) (k : ByteArray) : Bool := !(mget m1 k).isSome
theorem iterate2_q (m1 m : List (ByteArray × Tree)) (hnd1 : (m1.map (·.1)).Nodup) (hnd : (m.map (·.1)).Nodup) (ver : Nat) (l : List ByteArray) (hl : l.length + m.length ≤ 4000000000000) :
    AProc Try.prog 191 [.c (.d (.mp m)), aAlloc, .c (.fn 1000000000)] [(1000000000, .clo (.fn fGath2) [.own 1000000003 0, .own 1000000001 0]), (1000000001, .cells [.gs 1000000002 ver] tStrs), (1000000002, .arr ver tStr (sRow l)), (1000000003, .cells [.d (dM m1)] 88)]
      (fun r own' => ∃ q : List ByteArray, q.Perm (m.map (·.1)) ∧ r = aV (.bool true) ∧ gath2 m1 (ver + (q.filter (notIn m1)).length) (l ++ q.filter (notIn m1)) own') := by
  refine aproc_ex [] Try.func191 (by kernel_rfl) rfl Try.ntmps191 Try.results191 (Nat.le_of_ble_eq_true (by kernel_rfl)) ?_; intro hok w0 S0
  (repeat' (first
                                                            | (with_reducible refine br_d (fun _ => ?_) (fun _ => ?_))
                                                            | (with_reducible refine br_i (fun _ => ?_) (fun _ => ?_))
                                                            | ((with_reducible apply nd_i [] (f := 111)); (case hc => simp -dsimp [hnd]; first | exact ⟨rfl, rfl⟩ | exact ⟨rfl, rfl, rfl⟩); (case hf => exact Try.func111); (case hA => simp -dsimp [hnd] <;> with_reducible rfl); (case hok => simp -dsimp [hnd]); (case hY => simp -dsimp [hnd] <;> with_reducible rfl); (case hO => simp -dsimp [hnd] <;> with_reducible rfl); (case hn => kernel_rfl); (case hb => rfl); (case hN => exact Try.ntmps111); (case hrs => exact Try.results111); (case hl => exact Nat.le_of_ble_eq_true (by kernel_rfl)); intro hok w0 S0)
                                                            | ((with_reducible apply nd_defer); (case hx => simp -dsimp [hnd]; with_reducible rfl); (case hd => exact free_any))
                                                            | ((with_reducible apply nd_next); (case hx => simp -dsimp [hnd]; first | done | with_reducible rfl); (case hid => simp -dsimp [hnd]; first | done | with_reducible rfl | exact ⟨rfl, rfl, rfl⟩ | exact ⟨rfl, rfl⟩); (case' h1 => intro _ _ _); (case' h0 => intro _))
                                                            | ((with_reducible apply nd_entry); (case hx => simp -dsimp [hnd]; first | done | with_reducible rfl); (case hid => simp -dsimp [hnd]; first | done | with_reducible rfl | exact ⟨rfl, rfl, rfl⟩ | exact ⟨rfl, rfl⟩))
                                                            | ((with_reducible apply nd_range); (case hx => simp -dsimp [hnd]; with_reducible rfl); (case hT => simp -dsimp [hnd]); (case hnd => assumption); (case hz => simp -dsimp [hnd]))
                                                            | (with_reducible refine dn_i follows_any (by kernel_rfl) ?_)
                                                            | (with_reducible exact done_eq rfl)
                                                            | (simp -dsimp [hnd]))); (all_goals try with_reducible refine done_eq ?_)
  · have e : m = [] := by assumption
    subst e
    exact ⟨[], List.Perm.refl _, rfl, by simp [gath2, look]⟩
  · refine ex_loop (fun x : List ByteArray × List ByteArray × D × Option ByteArray => ⟨[(1, aAlloc), (2, .c (.fn 1000000000)), (7, .c (.own 15004 0)), (20, .c (.fn 20))], [(20, .clo (.it m x.1 x.2.2.2) []), (15004, cVU x.2.2.1), (1000000000, .clo (.fn fGath2) [.own 1000000003 0, .own 1000000001 0]), (1000000001, .cells [.gs 1000000002 (ver + (x.2.1.filter (notIn m1)).length)] tStrs), (1000000002, .arr (ver + (x.2.1.filter (notIn m1)).length) tStr (sRow (l ++ x.2.1.filter (notIn m1)))), (1000000003, .cells [.d (dM m1)] 88)]⟩)
      (fun x => x.1.Nodup ∧ (x.2.1 ++ x.1).Perm (m.map (·.1))) (fun x => x.1.length) (m.map (·.1), [], .v .nilIface, none) ?_ ⟨hnd, List.Perm.refl _⟩ ?_
    · exact Weak.same (by simp -dsimp [List.length_nil, Nat.add_zero, List.append_nil]) (by simp -dsimp [List.length_nil, Nat.add_zero, List.append_nil]) (by first | rfl | (simp [closedSt, Av.ids, Ow.ids, Cl.ids, Go.Smd.keys]; done))
    · rintro ⟨left, dn, y, cur⟩ ⟨hnl, hpm⟩ K hK
      dsimp only at hnl hpm hK ⊢
      have hlen := hpm.length_eq
      simp only [List.length_append, List.length_map] at hlen
      have hfl := List.length_filter_le (notIn m1) dn
      obtain ⟨rw, hrw⟩ : ∃ rw, rw = dn.filter (notIn m1) := ⟨_, rfl⟩
      rw [← hrw] at hfl
      have hb : (l.length + rw.length + 1) * 16 ≤ 140737488351232 := by omega
      simp only [← hrw]
      (repeat' (first
                                                            | (with_reducible refine br_d (fun _ => ?_) (fun _ => ?_))
                                                            | (with_reducible refine br_i (fun _ => ?_) (fun _ => ?_))
                                                            | ((with_reducible apply nd_q (ρ := [(1000000000, 15004)]) 7 (by rename_i k hk hs; exact reuse_p (.tr ((mget m k).getD .nil)) y)); (case hc => simp -dsimp [hnd, hnd1, toDs, hb] <;> first | exact ⟨rfl, rfl, rfl⟩ | exact ⟨rfl, rfl⟩ | done); (case hx => simp -dsimp [hnd, hnd1, toDs, hb] <;> with_reducible rfl); (case ho => simp -dsimp [hnd, hnd1, toDs, hb]); (case hh => simp -dsimp [hnd, hnd1, toDs, hb]); (case hb => simp -dsimp [hnd, hnd1, toDs, hb]))
                                                            | (with_reducible refine nd_v (has_a m1 hnd1 _) (by first | rfl | (simp -dsimp [hnd, hnd1, toDs, hb]; done)) ?_)
                                                            | (with_reducible refine nw_v (has_a m1 hnd1 _) rfl (by first | rfl | (simp -dsimp [hnd, hnd1, toDs, hb]; done)) (by first | rfl | (simp -dsimp [hnd, hnd1, toDs, hb]; done)) ?_)
                                                            | ((with_reducible apply nd_i [] (f := 203)); (case hc => simp -dsimp [hnd, hnd1, toDs, hb]; first | exact ⟨rfl, rfl⟩ | exact ⟨rfl, rfl, rfl⟩); (case hf => exact Try.func203); (case hA => simp -dsimp [hnd, hnd1, toDs, hb] <;> with_reducible rfl); (case hok => simp -dsimp [hnd, hnd1, toDs, hb]); (case hY => simp -dsimp [hnd, hnd1, toDs, hb] <;> with_reducible rfl); (case hO => simp -dsimp [hnd, hnd1, toDs, hb] <;> with_reducible rfl); (case hn => kernel_rfl); (case hb => rfl); (case hN => exact Try.ntmps203); (case hrs => exact Try.results203); (case hl => exact Nat.le_of_ble_eq_true (by kernel_rfl)); intro hok w0 S0)
                                                            | ((with_reducible apply nd_next); (case hx => simp -dsimp [hnd, hnd1, toDs, hb]; first | done | with_reducible rfl); (case hid => simp -dsimp [hnd, hnd1, toDs, hb]; first | done | with_reducible rfl | exact ⟨rfl, rfl, rfl⟩ | exact ⟨rfl, rfl⟩); (case' h1 => intro _ _ _); (case' h0 => intro _))
                                                            | ((with_reducible apply nd_entry); (case hx => simp -dsimp [hnd, hnd1, toDs, hb]; first | done | with_reducible rfl); (case hid => simp -dsimp [hnd, hnd1, toDs, hb]; first | done | with_reducible rfl | exact ⟨rfl, rfl, rfl⟩ | exact ⟨rfl, rfl⟩))
                                                            | ((with_reducible apply nd_range); (case hx => simp -dsimp [hnd, hnd1, toDs, hb]; with_reducible rfl); (case hT => simp -dsimp [hnd, hnd1, toDs, hb]); (case hnd => assumption); (case hz => simp -dsimp [hnd, hnd1, toDs, hb]))
                                                            | (with_reducible refine dn_i follows_any (by kernel_rfl) ?_)
                                                            | (with_reducible exact done_eq rfl)
                                                            | (simp -dsimp [hnd, hnd1, toDs, hb]))); (all_goals try with_reducible refine done_eq ?_)
      · have e : left = [] := by assumption
        subst e
        rw [List.append_nil] at hpm
        exact ⟨dn, hpm, rfl, by simp [gath2, look, hrw]⟩
      · rename_i k hk hs hq
        have hp := left_perm hnl hk
        have hp2 := hp.length_eq
        simp only [List.length_cons] at hp2
        have hq2 : notIn m1 k = true := by simpa using hq
        have e3 : (dn ++ [k]).filter (notIn m1) = rw ++ [k] := by rw [List.filter_append, ← hrw, List.filter_cons_of_pos hq2]; rfl
        refine hK _ (left.filter fun x => decide (x ≠ k), dn ++ [k], .tr ((mget m k).getD .nil), some k) ?_ ⟨hnl.filter _, ?_⟩ (by dsimp only; omega)
        · simp only [e3]
          exact Weak.same (by simp -dsimp [Nat.add_assoc]) (by simp -dsimp [Nat.add_assoc]) (by first | rfl | (simp [closedSt, Av.ids, Ow.ids, Cl.ids, Go.Smd.keys]; done))
        · refine List.Perm.trans ?_ hpm
          rw [List.append_assoc]
          exact List.Perm.append_left dn hp.symm
      · rename_i k hk hs hq
        have hp := left_perm hnl hk
        have hp2 := hp.length_eq
        simp only [List.length_cons] at hp2
        have hq2 : ¬ notIn m1 k = true := by cases h : mget m1 k <;> simp_all [notIn]
        have e3 : (dn ++ [k]).filter (notIn m1) = rw := by rw [List.filter_append, ← hrw, List.filter_cons_of_neg hq2]; simp
        refine hK _ (left.filter fun x => decide (x ≠ k), dn ++ [k], .tr ((mget m k).getD .nil), some k) ?_ ⟨hnl.filter _, ?_⟩ (by dsimp only; omega)
        · simp only [e3]
          exact Weak.same (by simp -dsimp [Nat.add_assoc]) (by simp -dsimp [Nat.add_assoc]) (by first | rfl | (simp [closedSt, Av.ids, Ow.ids, Cl.ids, Go.Smd.keys]; done))
        · refine List.Perm.trans ?_ hpm
          rw [List.append_assoc]
          exact List.Perm.append_left dn hp.symm
theorem iterate1_p (m : List (ByteArray × Tree)) (hnd : (m.map (·.1)).Nodup) (ver : Nat) (l : List ByteArray) (hl : l.length + m.length ≤ 4000000000000) :
    AProc Try.prog 191 [.c (.d (.mp m)), aAlloc, .c (.fn 1000000000)] [(1000000000, .clo (.fn fGath1) [.own 1000000001 0]), (1000000001, .cells [.gs 1000000002 ver] tStrs), (1000000002, .arr ver tStr (sRow l))]
      (fun r own' => ∃ q : List ByteArray, q.Perm (m.map (·.1)) ∧ r = aV (.bool true) ∧ own' = [(1000000001, .cells [.gs 1000000002 (ver + m.length)] tStrs), (1000000002, .arr (ver + m.length) tStr (sRow (l ++ q)))]) :=
  (iterate1_q m hnd ver l hl).drop fun r own' ⟨q, hq, hr, h1, h2, h3⟩ => ⟨_, ⟨q, hq, hr, rfl⟩, by
    intro p hp
    simp only [List.mem_cons, List.not_mem_nil, or_false] at hp
    rcases hp with rfl | rfl
    · exact h2
    · exact h3, by rfl, by rw [hr]; rfl⟩
theorem iterate2_p (m1 m : List (ByteArray × Tree)) (hnd1 : (m1.map (·.1)).Nodup) (hnd : (m.map (·.1)).Nodup) (ver : Nat) (l : List ByteArray) (hl : l.length + m.length ≤ 4000000000000) :
    AProc Try.prog 191 [.c (.d (.mp m)), aAlloc, .c (.fn 1000000000)] [(1000000000, .clo (.fn fGath2) [.own 1000000003 0, .own 1000000001 0]), (1000000001, .cells [.gs 1000000002 ver] tStrs), (1000000002, .arr ver tStr (sRow l)), (1000000003, .cells [.d (dM m1)] 88)]
      (fun r own' => ∃ q : List ByteArray, q.Perm (m.map (·.1)) ∧ r = aV (.bool true) ∧ own' = [(1000000001, .cells [.gs 1000000002 (ver + (q.filter (notIn m1)).length)] tStrs), (1000000002, .arr (ver + (q.filter (notIn m1)).length) tStr (sRow (l ++ q.filter (notIn m1)))), (1000000003, .cells [.d (dM m1)] 88)]) :=
  (iterate2_q m1 m hnd1 hnd ver l hl).drop fun r own' ⟨q, hq, hr, h1, h2, h3, h4⟩ => ⟨_, ⟨q, hq, hr, rfl⟩, by
    intro p hp
    simp only [List.mem_cons, List.not_mem_nil, or_false] at hp
    rcases hp with rfl | rfl | rfl
    · exact h2
    · exact h3
    · exact h4, by rfl, by rw [hr]; rfl⟩
end Go.Smd
end
section
set_option linter.unusedSimpArgs false
namespace Go.Smd
open Go.RowKit Go.Proofs
def OwnS (w : World) (B : Nat) (v : Value) (ss : List ByteArray) : Prop := w.ownsRow B 9 1 v ss.length (ss.map Value.string)
theorem OwnS.nil (w : World) (B : Nat) : OwnS w B (.slice none 0 0) [] := ⟨rfl, .inl ⟨rfl, rfl⟩⟩
theorem OwnS.kept {w w' : World} {B : Nat} {v : Value} {ss : List ByteArray} {row : Option Nat} (h : OwnS w B v ss) (hg : w.grownBy w' row) (hne : v.ownBlock = none ∨ v.ownBlock ≠ row) : OwnS w' B v ss := World.ownsRow.kept h hg hne
theorem OwnS.form {w : World} {B : Nat} {v : Value} {ss : List ByteArray} (h : OwnS w B v ss) : ∃ A c, v = .slice A ss.length c ∧ ss.length ≤ c := by
  rcases h.2 with ⟨h', hn⟩ | ⟨g', cap', cur, h', _, hg, hnc, _⟩
  · exact ⟨none, 0, by rw [h', hn], by omega⟩
  · exact ⟨_, _, h', hnc⟩
theorem OwnS.cell {w : World} {B g c : Nat} {n : Nat} {ss : List ByteArray} (h : OwnS w B (.slice (some ⟨g, 0, none⟩) n c) ss) (hn : n = ss.length) {j : Nat} {s : ByteArray} (hj : ss[j]? = some s) : w.cell? ⟨g, j, none⟩ = some (.string s) := by
  subst hn
  rw [World.ownsRow.cellAt h j (by have := (List.getElem?_eq_some_iff.1 hj).1; omega), List.getElem?_map, hj]; rfl
theorem OwnS.set {w : World} {B g c n : Nat} {ss : List ByteArray} (h : OwnS w B (.slice (some ⟨g, 0, none⟩) n c) ss) (hn : n = ss.length) (j : Nat) (s : ByteArray) :
    OwnS (w.setCell ⟨g, j, none⟩ (.string s)) B (.slice (some ⟨g, 0, none⟩) n c) (ss.set j s) ∧ w.grownBy (w.setCell ⟨g, j, none⟩ (.string s)) (some g) := by
  subst hn
  have := World.ownsRow.stored h j (.string s)
  unfold OwnS
  rw [List.length_set, List.map_set]; exact this
theorem OwnS.push {w : World} {B : Nat} {v : Value} {ss : List ByteArray} (h : OwnS w B v ss) (s : ByteArray) (ty : TypeId) (hB : B ≤ w.heap.size) (hn : (ss.length + 1) * 16 ≤ 140737488355328) :
    ∃ v' w', (Builtin.append_ #[23, 23] ty #[v, .slice (some ⟨w.heap.size, 0, none⟩) 1 1]).run Try.prog (w.alloc (.cells #[.string s] 9)) = .ok v' w' ∧ OwnS w' B v' (ss ++ [s]) ∧ w.grownBy w' v.ownBlock := by
  obtain ⟨i, hi, hz, hs, hb⟩ := info_parts info_str
  obtain ⟨v', w', hr, ho, hg, _⟩ := run_append_own (P := Try.prog) (w.alloc (.cells #[.string s] 9)) B 23 ty 9 i _ 1 16 Try.underlying23 hi hz hs hb rfl (by omega) v ss.length (ss.map .string) (World.ownsRow.alloc h _)
    ⟨w.heap.size, 0, none⟩ 1 1 [.string s] rfl (by simpa using World.news_of_block (cs := #[.string s]) (t := 9) (fr := (0, 0)) (heap_alloc_new w (.cells #[.string s] 9))) (by simp [Value.oneCell']) (by simp only [maxLen]; omega) hn (by rw [size_alloc]; omega)
  refine ⟨v', w', hr, ?_, World.grownBy.trans (World.grownBy_alloc w (.cells #[.string s] 9) v.ownBlock) hg⟩
  unfold OwnS
  rw [List.length_append, List.map_append]; exact ho
def putAt (k : ByteArray) (ss : List ByteArray) (j : Nat) : List ByteArray := ss.take j ++ k :: ss.drop j
theorem putAt_length (k : ByteArray) (ss : List ByteArray) (j : Nat) : (putAt k ss j).length = ss.length + 1 := by simp [putAt]; omega
theorem putAt_end (k : ByteArray) (ss : List ByteArray) : putAt k ss ss.length = ss ++ [k] := by simp [putAt]
theorem putAt_at (k : ByteArray) {ss : List ByteArray} {j : Nat} (h : j ≤ ss.length) : (putAt k ss j)[j]? = some k := by
  unfold putAt; rw [List.getElem?_append_right (by simp; omega)]; simp [Nat.min_eq_left h]
theorem putAt_prev (k : ByteArray) {ss : List ByteArray} {j : Nat} {s : ByteArray} (h : ss[j]? = some s) : (putAt k ss (j + 1))[j]? = some s := by
  have := (List.getElem?_eq_some_iff.1 h).1
  unfold putAt; rw [List.getElem?_append_left (by simp; omega), List.getElem?_take, if_pos (by omega), h]
theorem putAt_swap (k : ByteArray) {ss : List ByteArray} {j : Nat} {s : ByteArray} (h : ss[j]? = some s) : ((putAt k ss (j + 1)).set (j + 1) s).set j k = putAt k ss j := by
  have hlt := (List.getElem?_eq_some_iff.1 h).1
  apply List.ext_getElem?
  intro i
  have hl : (putAt k ss (j + 1)).length = ss.length + 1 := putAt_length _ _ _
  rw [List.getElem?_set, List.getElem?_set]
  simp only [List.length_set, hl]
  by_cases h1 : j = i
  · subst h1; rw [if_pos rfl, if_pos (by omega), putAt_at k (by omega)]
  · rw [if_neg h1]
    by_cases h2 : j + 1 = i
    · subst h2
      rw [if_pos rfl, if_pos (by omega)]
      unfold putAt
      rw [List.getElem?_append_right (by simp; omega)]
      simp only [List.length_take, Nat.min_eq_left (show j ≤ ss.length by omega), show j + 1 - j = 1 by omega, List.getElem?_cons_succ, List.getElem?_drop, Nat.add_zero]
      exact h.symm
    · rw [if_neg h2]
      unfold putAt
      rcases Nat.lt_or_ge i j with hi | hi
      · rw [List.getElem?_append_left (by simp; omega), List.getElem?_append_left (by simp; omega), List.getElem?_take, List.getElem?_take, if_pos (by omega), if_pos hi]
      · rw [List.getElem?_append_right (by simp; omega), List.getElem?_append_right (by simp; omega)]
        simp only [List.length_take, Nat.min_eq_left (show j ≤ ss.length by omega), Nat.min_eq_left (show j + 1 ≤ ss.length by omega)]
        obtain ⟨p, rfl⟩ : ∃ p, i = j + 2 + p := ⟨i - (j + 2), by omega⟩
        rw [show j + 2 + p - (j + 1) = p + 1 by omega, show j + 2 + p - j = p + 2 by omega]
        simp only [List.getElem?_cons_succ, List.getElem?_drop]
        congr 1; omega
theorem putAt_sorted {k : ByteArray} {ss : List ByteArray} {j : Nat} (hs : ss.Pairwise fun a b => blt a b = true) (h1 : ∀ q ∈ ss.take j, blt q k = true) (h2 : ∀ q ∈ ss.drop j, blt k q = true) : (putAt k ss j).Pairwise fun a b => blt a b = true := by
  unfold putAt
  rw [List.pairwise_append]
  refine ⟨hs.sublist (List.take_sublist _ _), List.pairwise_cons.2 ⟨h2, hs.sublist (List.drop_sublist _ _)⟩, fun a ha b hb => ?_⟩
  rcases List.mem_cons.1 hb with rfl | hb
  · exact h1 a ha
  · exact blt_trans (h1 a ha) (h2 b hb)
theorem sorted_eq : ∀ {a b : List ByteArray}, a.Pairwise (fun a b => blt a b = true) → b.Pairwise (fun a b => blt a b = true) → (∀ q, q ∈ a ↔ q ∈ b) → a = b
  | [], [], _, _, _ => rfl
  | [], y :: b, _, _, h => by have := (h y).2 (List.mem_cons_self ..); cases this
  | x :: a, [], _, _, h => by have := (h x).1 (List.mem_cons_self ..); cases this
  | x :: a, y :: b, ha, hb, h => by
    rw [List.pairwise_cons] at ha hb
    have hxy : x = y := by
      rcases List.mem_cons.1 ((h x).1 (List.mem_cons_self ..)) with e | hx
      · exact e
      · rcases List.mem_cons.1 ((h y).2 (List.mem_cons_self ..)) with e | hy
        · exact e.symm
        · have h1 := hb.1 x hx
          have h2 := ha.1 y hy
          rw [blt_asymm h1] at h2; cases h2
    subst hxy
    rw [sorted_eq ha.2 hb.2 fun q => ?_]
    constructor
    · intro hq
      rcases List.mem_cons.1 ((h q).1 (List.mem_cons_of_mem _ hq)) with rfl | h'
      · have := ha.1 q hq; rw [blt_irrefl] at this; cases this
      · exact h'
    · intro hq
      rcases List.mem_cons.1 ((h q).2 (List.mem_cons_of_mem _ hq)) with rfl | h'
      · have := hb.1 q hq; rw [blt_irrefl] at this; cases this
      · exact h'
end Go.Smd
end
section
set_option linter.unusedSimpArgs false
set_option maxRecDepth 100000
set_option maxHeartbeats 8000000
namespace Go.Smd
open Go.RowKit Go.Proofs
@[simp] theorem ctys_fn : ctys Try.prog 300 = [none] := by kernel_rfl
theorem putAt_perm (k : ByteArray) (ss rest : List ByteArray) (j : Nat) : (putAt k ss j ++ rest).Perm (ss ++ k :: rest) := by
  unfold putAt
  have h : (ss.take j ++ k :: ss.drop j).Perm (k :: ss) := by
    have := List.perm_middle (a := k) (l₁ := ss.take j) (l₂ := ss.drop j)
    rwa [List.take_append_drop] at this
  exact (h.append_right rest).trans List.perm_middle.symm
theorem take_below {k s : ByteArray} {ss : List ByteArray} {p : Nat} (hso : ss.Pairwise fun a b => blt a b = true) (hs : ss[p]? = some s) (h : blt s k = true) : ∀ q ∈ ss.take (p + 1), blt q k = true := fun q hq => by
  obtain ⟨i, hi⟩ := List.getElem?_of_mem hq
  rw [List.getElem?_take] at hi
  split at hi
  · next hlt =>
    by_cases e : i = p
    · subst e; rw [hs] at hi; cases hi; exact h
    · obtain ⟨h1, rfl⟩ := List.getElem?_eq_some_iff.1 hi
      obtain ⟨h2, rfl⟩ := List.getElem?_eq_some_iff.1 hs
      exact blt_trans (List.pairwise_iff_getElem.1 hso i p h1 h2 (by omega)) h
  · cases hi
theorem swap_row {k s : ByteArray} {ss rest R2 : List ByteArray} {p : Nat} (hR2 : R2 = putAt k ss (p + 1) ++ rest) (hs : ss[p]? = some s) : ((sRow R2).set (p + 1) [.v (.string s)]).set p [.v (.string k)] = sRow (putAt k ss p ++ rest) := by
  have hlt := (List.getElem?_eq_some_iff.1 hs).1
  have hpl := putAt_length k ss (p + 1)
  subst hR2
  show ((List.map (fun s => [D.v (.string s)]) _).set (p + 1) ((fun s => [D.v (.string s)]) s)).set p ((fun s => [D.v (.string s)]) k) = _
  rw [← List.map_set, ← List.map_set, List.set_append_left _ _ (by omega), List.set_append_left _ _ (by rw [List.length_set]; omega), putAt_swap k hs]
theorem mget_mem {m : List (ByteArray × Tree)} {k : ByteArray} {t : Tree} (h : mget m k = some t) : (k, t) ∈ m := by
  unfold mget at h
  obtain ⟨p, hp, rfl⟩ := Option.map_eq_some_iff.1 h
  have h1 := List.find?_some hp
  have h2 := List.mem_of_find?_eq_some hp
  have : p.1 = k := by simpa using h1
  rw [← this]; exact h2
theorem mget_none {m : List (ByteArray × Tree)} {k : ByteArray} (h : ¬ k ∈ m.map (·.1)) : mget m k = none := by
  unfold mget
  rw [List.find?_eq_none.2 fun p hp => ?_]; rfl
  intro e
  exact h (List.mem_map.2 ⟨p, hp, by simpa using e⟩)
theorem mget_some {m : List (ByteArray × Tree)} {k : ByteArray} (h : k ∈ m.map (·.1)) : (mget m k).isSome = true := by
  obtain ⟨p, hp, rfl⟩ := List.mem_map.1 h
  unfold mget
  rw [Option.isSome_map, List.find?_isSome]
  exact ⟨p, hp, by simp⟩
def unionKeys (m1 m2 : List (ByteArray × Tree)) (ss : List ByteArray) : Prop := ss.Pairwise (fun a b => blt a b = true) ∧ ∀ q, q ∈ ss ↔ q ∈ m1.map (·.1) ∨ q ∈ m2.map (·.1)
end Go.Smd
end
section
set_option linter.unusedSimpArgs false
set_option maxRecDepth 100000
set_option maxHeartbeats 8000000
namespace Go.Smd
open Go.RowKit Go.Proofs
@[simp] theorem ctys_fn3 : ctys Try.prog 150 = [none] := by kernel_rfl
@[simp] theorem lay_fn3 : Try.prog.lay 150 = some (1, false) := by kernel_rfl
end Go.Smd
end
section
set_option linter.unusedSimpArgs false
namespace Go.Smd
open Go.RowKit
section
variable {P : Program} {N : Nat} {w0 : World} {S0 : Env} {ops : Array Oper}
def Eff (P : Program) (N : Nat) (full base : List (Nat × Av)) (o : Oper) (own own' : List (Nat × Ow)) : Prop :=
  ∀ σ : St, σ.h = look own → (∀ x ∈ o.op.operands, σ.ev x = (St.mk (full ++ base) own).ev x) → (∀ t, σ.tmp t = valT full base t ∨ σ.tmp t = (look base t).getD .any) →
    ∀ K : St → Prop, (∀ σ' : St, σ'.h = look own' → (∀ t, σ'.tmp t = if o.dst = some t then valT full base t else σ.tmp t) → K σ') → execX P N σ o K
def lastO (own : List (Nat × Ow)) : List (Nat × List (Nat × Ow)) → List (Nat × Ow)
  | [] => own
  | (_, own') :: es => lastO own' es
def inOrder (ops : Array Oper) : List Nat → Bool
  | [] => true
  | c :: cs => cs.all (fun d => waits ops 64 d c && d != c) && inOrder ops cs
def dqOk (N : Nat) (ops : Array Oper) (cs is ks : List Nat) : Bool :=
  (List.range ops.size).all (fun i => match ops[i]? with
    | some o => o.guard.isNone && dstOk N o && (match o.dst with | some d => ks.contains d | none => cs.contains i) &&
      (o.looksAt ops).all (fun t => (List.range ops.size).all fun j => (match ops[j]? with | some oj => !(oj.dst == some t) || o.after.any (fun e => Region.binds .any e && e.on == j) | none => true))
    | none => false) &&
  ks.all (fun t => (List.range ops.size).any fun j => match ops[j]? with | some oj => oj.dst == some t | none => false) &&
  topo ops [] is && (List.range ops.size).all is.contains && cs.all (fun c => decide (c < ops.size)) && inOrder ops cs
structure DQ (N : Nat) (ops : Array Oper) (cs : List Nat) (full : List (Nat × Av)) : Prop where
  gd : ∀ (i : Nat) (o : Oper), ops[i]? = some o → o.guard = none
  dst : ∀ (i : Nat) (o : Oper), ops[i]? = some o → dstOk N o = true ∧ (i ∉ cs → ∃ d, o.dst = some d)
  dep : ∀ (i : Nat) (o : Oper), ops[i]? = some o → ∀ t ∈ o.looksAt ops, ∀ (j : Nat) (oj : Oper), ops[j]? = some oj → oj.dst = some t → ∃ e ∈ o.after, Region.binds .any e = true ∧ e.on = j
  key : ∀ t, (look full t).isSome = true → ∃ (j : Nat) (oj : Oper), ops[j]? = some oj ∧ oj.dst = some t
  lt : ∀ c ∈ cs, c < ops.size
structure AtQ (ops : Array Oper) (full base : List (Nat × Av)) (ps : List Nat) (own : List (Nat × Ow)) (rest : List Nat) (listed : Array Bool) (σ : St) : Prop where
  o : σ.h = look own
  pl : ∀ p ∈ ps, listed.getD p false = true
  rl : ∀ c ∈ rest, listed.getD c false = false
  t1 : ∀ (j : Nat) (oj : Oper) (t : Tmp), ops[j]? = some oj → oj.dst = some t → listed.getD j false = true → σ.tmp t = valT full base t
  t0 : ∀ t : Tmp, (∀ (j : Nat) (oj : Oper), ops[j]? = some oj → oj.dst = some t → listed.getD j false = false) → σ.tmp t = (look base t).getD .any
theorem AtQ.sees {cs : List Nat} {full base : List (Nat × Av)} {ps : List Nat} {own : List (Nat × Ow)} {rest : List Nat} {listed : Array Bool} {σ : St} (A : AtQ ops full base ps own rest listed σ) (D : DQ N ops cs full) {i : Nat} {o : Oper} (ho : ops[i]? = some o) (hr : ∀ e ∈ o.after, Region.binds .any e = true → listed.getD e.on false = true) (own' : List (Nat × Ow)) :
    ∀ x ∈ o.op.operands, σ.ev x = (St.mk (full ++ base) own').ev x := by
  refine ops_looks (ops := ops) fun t ht => ?_
  rw [full_tmp]
  by_cases hj : ∃ (j : Nat) (oj : Oper), ops[j]? = some oj ∧ oj.dst = some t
  · obtain ⟨j, oj, h1, h2⟩ := hj
    obtain ⟨e, he, hb, rfl⟩ := D.dep i o ho t ht j oj h1 h2
    exact A.t1 _ oj t h1 h2 (hr e he hb)
  · rw [A.t0 t fun j oj h1 h2 => absurd ⟨j, oj, h1, h2⟩ hj]
    unfold valT
    cases hf : look full t with
    | none => rfl
    | some x => obtain ⟨j, oj, h1, h2⟩ := D.key t (by rw [hf]; rfl); exact absurd ⟨j, oj, h1, h2⟩ hj
theorem eff_p {full base : List (Nat × Av)} {own own' : List (Nat × Ow)} {o : Oper} {f : FuncId} {xs args : List Av} {Ts : List TypeId} {ownA ownB : List (Nat × Ow)} {ρ : List (Nat × Nat)} {r0 : Av} {d : Tmp} (t : Nat) (hp : plainCall o.op = true) (hd : o.dst = some d) (hdk : dstOk N o = true)
    (hc : calleeOf P ⟨full ++ base, own⟩ o = some (f, xs, Ts)) (hx : argsC P [] (look own) xs Ts = args.map (Av.ren (renI ρ t))) (ho : handOk ρ args ownA = true) (hh : handed (look own) (renI ρ t) ownA) (hR : AProc P f args ownA fun r own' => r = r0 ∧ own' = ownB)
    (hb : backOk ⟨[], own⟩ ρ t ownB = true) (h1 : mapV (Ow.fix (look (backH ⟨[], own⟩ ρ t ownB))) (backH ⟨[], own⟩ ρ t ownB) = own') (hv : (r0.ren (renI ρ t)).fix (look (backH ⟨[], own⟩ ρ t ownB)) = valT full base d)
    (hfix : ∀ p ∈ full ++ base, p.2.fix (look (backH ⟨[], own⟩ ρ t ownB)) = p.2) : Eff P N full base o own own' := fun σ e0 e1 e2 K hK => by
  have key := eff_proc (P := P) (N := N) (σ := ⟨σ.tmps, own⟩) (full := full) (base := base) (own0 := own) (own1 := own') (o := o) (K := K) t hp hd hdk hc hx ho hh hR hb h1 hv hfix rfl (fun x hx => by rw [← e1 x hx]; cases x <;> rfl) (fun t' => e2 t') fun σ' h2 h3 => hK σ' h2 h3
  obtain ⟨k1, k2⟩ := key
  refine ⟨k1, ?_⟩
  rw [vval_plain hp, wstep_none (plain_notW hp)] at k2 ⊢
  have hsh : σ.h = look own := e0
  have hkk : ∀ i, hasKey σ.own i = hasKey own i := fun i => by
    have : look σ.own i = look own i := congrFun e0 i
    cases hq : hasKey own i with
    | true => obtain ⟨x, hx⟩ := hasKey_iff.1 hq; exact hasKey_iff.2 ⟨x, by rw [this, hx]⟩
    | false =>
      cases hq2 : hasKey σ.own i with
      | false => rfl
      | true => obtain ⟨x, hx⟩ := hasKey_iff.1 hq2; rw [this] at hx; rw [hasKey_iff.2 ⟨x, hx⟩] at hq; cases hq
  have hbo : ∀ own', backOk σ ρ t own' = backOk ⟨[], own⟩ ρ t own' := fun own' => by
    unfold backOk
    simp only [hkk]
  have hfil : ∀ (p : Nat → Bool) (l : List (Nat × Ow)) (i : Nat), look (filK p l) i = if p i then look l i else none := fun p l i => by
    induction l with
    | nil => simp [filK, look]
    | cons q l ih =>
      obtain ⟨k, x⟩ := q
      simp only [filK]
      cases hpk : p k with
      | true =>
        simp only [look]
        by_cases e : k = i
        · subst e; simp [hpk]
        · simp only [if_neg e]; exact ih
      | false =>
        simp only [look]
        by_cases e : k = i
        · subst e; rw [ih]; simp [hpk]
        · simp only [if_neg e]; exact ih
  have hbh : ∀ own', look (backH σ ρ t own') = look (backH ⟨[], own⟩ ρ t own') := fun own' => by
    funext i
    unfold backH
    rw [look_append, look_append, hfil, hfil]
    have : look σ.own i = look own i := congrFun e0 i
    simp only [this]
  have hfx : ∀ t', (σ.tmp t').fix (look (backH ⟨[], own⟩ ρ t ownB)) = σ.tmp t' := fun t' => by
    have hl : ∀ {l : List (Nat × Av)}, (∀ p ∈ l, p ∈ full ++ base) → ∀ x, look l t' = some x → x.fix (look (backH ⟨[], own⟩ ρ t ownB)) = x := fun {l} hl x hx => hfix _ (hl _ (look_mem hx))
    rcases e2 t' with h | h <;> rw [h]
    · unfold valT
      cases hq : look full t' with
      | some x => exact hl (fun p hp => List.mem_append_left _ hp) x hq
      | none =>
        cases hq2 : look base t' with
        | some x => exact hl (fun p hp => List.mem_append_right _ hp) x hq2
        | none => rfl
    · cases hq2 : look base t' with
      | some x => exact hl (fun p hp => List.mem_append_right _ hp) x hq2
      | none => rfl
  refine .inr (.proc (t := t) (ρ := ρ) (own0 := ownA) (args := args) (by rw [calleeOf_congr e1 hsh]; exact hc) (by rw [hsh]; exact hx) ho (by rw [hsh]; exact hh) hR ?_)
  rintro r own'' ⟨rfl, rfl⟩
  refine ⟨by rw [hbo]; exact hb, hK _ ?_ fun t' => ?_⟩
  · rw [put_h]
    show look (mapV (Ow.fix (look (backH σ ρ t own''))) (backH σ ρ t own'')) = look own'
    rw [← h1]
    funext i
    simp only [mapV_eq, look_map, hbh]
  · rw [put_tmp, hbh, hv, hd]
    by_cases e : some d = some t'
    · rw [if_pos e, if_pos e]; cases e; rfl
    · rw [if_neg e, if_neg e]
      have : (σ.back ρ t own'').tmp t' = (σ.tmp t').fix (look (backH σ ρ t own'')) := by
        unfold St.back St.tmp
        simp only [mapV_eq, look_map, look_dedup]
        cases look σ.tmps t' <;> rfl
      rw [this, hbh]; exact hfx t'
attribute [simp] lastO
end
end Go.Smd
end
section
set_option linter.unusedSimpArgs false
set_option maxRecDepth 100000
set_option maxHeartbeats 8000000
namespace Go.Smd
open Go.RowKit Go.Proofs
theorem mget_of_mem : ∀ {m : List (ByteArray × Tree)} {k : ByteArray} {v : Tree}, (m.map (·.1)).Nodup → (k, v) ∈ m → mget m k = some v
  | [], _, _, _, h => by cases h
  | p :: m, k, v, hnd, h => by
    simp only [List.map_cons, List.nodup_cons] at hnd
    unfold mget
    rcases List.mem_cons.1 h with rfl | h
    · simp
    · have hne : ¬ p.1 = k := fun e => hnd.1 (e ▸ List.mem_map_of_mem h)
      rw [List.find?_cons_of_neg (by simpa using hne)]
      exact mget_of_mem hnd.2 h
end Go.Smd
end
