/- The library's map, made of a plain one, changed and asked. -/
import Derived.Test.YtphldfnnjoehpaaMapOps
import Derived.Test.YtphldfnnjoehpaaSize
set_option linter.unusedSimpArgs false
namespace Go.Smd
open Go.RowKit Go.Proofs

set_option maxHeartbeats 400000 in
theorem newVx_c (T : TypeId) (y : Value) (w : World) :
    Calls Try.prog 89 #[.iface T y] w (Makes (fun W v => ∃ a, v = .iface 193 (.pointer (some ⟨a, 0, none⟩)) ∧ w.heap.size < a ∧ W.cell? ⟨a, 0, none⟩ = some (.iface T y)) w) := by
  have HF : Hid (∀ W, Ext w W → W.cell? ⟨w.heap.size + 1, 0, none⟩ = some (.iface T y) → Makes (fun W v => ∃ a, v = .iface 193 (.pointer (some ⟨a, 0, none⟩)) ∧ w.heap.size < a ∧ W.cell? ⟨a, 0, none⟩ = some (.iface T y)) w (.returned (.iface 193 (.pointer (some ⟨w.heap.size + 1, 0, none⟩)))) W) :=
    fun W e h => ⟨_, rfl, ⟨_, rfl, by omega, h⟩, e⟩
  go_enter Try.func89, Try.ntmps89
  go_wp2
  go_ret
  refine HF.out _ ?_ ?_
  · exact ((Ext.refl _).alloc _).alloc _
  · simp [go_sem]
set_option maxRecDepth 100000 in
set_option maxHeartbeats 1000000 in
theorem asMapx_c (r : Nat) (w : World) :
    Calls Try.prog 162 #[.agg #[.iface 154 (.map (some r))]] w (Makes (fun _ u => u = .iface 293 (.map (some r))) w) := by
  have HF : Hid (∀ W, Ext w W → Makes (fun _ u => u = .iface 293 (.map (some r))) w (.returned (.iface 293 (.map (some r)))) W) := fun W e => ⟨_, rfl, rfl, e⟩
  go_enter Try.func162, Try.ntmps162
  go_wp2
  go_ret
  exact HF.out _ (((Ext.refl w).alloc _).alloc _ |>.alloc _)

/-- Map r, which is m now, is turned into m'. -/
def Turns (S : Nat → Prop) (r : Nat) (m' : Fields) (w : World) (e : Ending) (w' : World) : Prop := (∃ u, e = .returned u) ∧ ∃ o, w' = put w r o ∧ RepT w' S (.map m') (.iface 154 (.map (some r)))
set_option maxRecDepth 100000 in
set_option maxHeartbeats 1000000 in
theorem del_c (S : Nat → Prop) (m : Fields) (r : Nat) (k : ByteArray) (w : World) (h : RepT w S (.map m) (.iface 154 (.map (some r)))) :
    Calls Try.prog 183 #[.map (some r), .string k] w (Turns S r (delF k m) w) := by
  obtain ⟨o, hrun, hrep⟩ := h.del (t := 293) (k := 9) Try.underlying293 Try.underlying9 k 9 0
  have HT : Hid (∀ u, Turns S r (delF k m) w (.returned u) (put w r o)) := fun u => ⟨⟨u, rfl⟩, o, rfl, hrep⟩
  clear h hrep
  go_enter Try.func183, Try.ntmps183
  go_wp2
  first | exact HT.out _ | (refine bodyPost_end (results_none rfl _ _ _) rfl ?_; exact HT.out _) | (unfold bodyPost; simp [results, go_sem]; exact HT.out _)
set_option maxRecDepth 100000 in
set_option maxHeartbeats 1000000 in
theorem has_c (S : Nat → Prop) (m : Fields) (r : Nat) (k : ByteArray) (w : World) (h : RepT w S (.map m) (.iface 154 (.map (some r)))) :
    Calls Try.prog 189 #[.map (some r), .string k] w (Makes (fun _ u => u = .bool (idxOf k (m.map (·.1))).isSome) w) := by
  obtain ⟨x, hrun⟩ := h.has (tt := 293) (kk := 9) Try.underlying293 Try.underlying9 k
  have HE := Lib.hid (Ext.refl w)
  clear h
  generalize (idxOf k (m.map (·.1))).isSome = b at hrun ⊢
  go_enter Try.func189, Try.ntmps189
  go_wp2
  go_ret
  exact ⟨_, rfl, rfl, HE.out⟩

set_option maxRecDepth 100000 in
set_option maxHeartbeats 1000000 in
theorem set_c (S S2 : Nat → Prop) (m : Fields) (r : Nat) (k : ByteArray) (t : Tree) (v : Value) (w : World) (h : RepT w S (.map m) (.iface 154 (.map (some r)))) (hv : RepV w S2 t v) (hS2 : ∀ b, S2 b → S b ∧ b ≠ r) (hk : k.size ≤ 140737488351232) (hm : m.length + 1 ≤ 140737488351232) :
    Calls Try.prog 193 #[.map (some r), .string k, v] w (fun e w' => ∃ w1, Ext w w1 ∧ Turns S r (ins k t m) w1 e w') := by
  obtain ⟨a, x, rfl, -, hc, hx⟩ := hv
  have HX := Lib.hid hx
  have HS : Hid (∀ w1, Ext w w1 → ∃ o, (Instr.mapUpdate 293 (.map (some r)) (.string k) x).run Try.prog w1 = .ok () (put w1 r o) ∧ RepT (put w1 r o) S (.map (ins k t m)) (.iface 154 (.map (some r)))) := fun w1 e =>
    RepT.set (h.ext e) Try.underlying293 Try.underlying9 ((hx.ext e).mono hS2) hk hm
  clear h hx
  go_enter Try.func193, Try.ntmps193
  go_wp2_with fail
  refine (unstr_c HX.out).mono ?_
  rintro e w1 ⟨u, rfl, rfl, hE⟩
  obtain ⟨o, hrun, hrep⟩ := HS.out w1 hE
  have HT : Hid (∀ u, ∃ w1, Ext w w1 ∧ Turns S r (ins k t m) w1 (.returned u) (put w1 r o)) := fun u => ⟨w1, hE, ⟨u, rfl⟩, o, rfl, hrep⟩
  have HT2 : Hid (∀ u, ∃ w2, Ext w w2 ∧ Turns S r (ins k t m) w2 (.returned u) (put w1 r o)) := fun u => ⟨w1, hE, ⟨u, rfl⟩, o, rfl, hrep⟩
  clear hE hrep HT
  go_wp2
  exact bodyPost_end (results_none rfl _ _ _) rfl (HT2.out _)
end Go.Smd
