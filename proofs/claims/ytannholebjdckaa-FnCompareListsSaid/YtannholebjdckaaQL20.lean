/- Part 20 of the proof: Ft Eq El Ov Cs. -/
import Derived.Test.YtannholebjdckaaQL12
import Derived.Test.YtannholebjdckaaQL18
import Derived.Test.YtannholebjdckaaQL19
set_option linter.unusedVariables false
section
set_option linter.unusedSimpArgs false
namespace Go.Smd
open Go.RowKit Go.Proofs
theorem Tree.ind {P : Tree → Prop} (hn : P .nil) (hb : ∀ b, P (.bool b)) (hi : ∀ n, P (.int n)) (hf : ∀ f, P (.float f)) (hs : ∀ s, P (.str s)) (hl : ∀ l, (∀ x ∈ l, P x) → P (.list l)) (hm : ∀ m, (∀ p ∈ m, P p.2) → P (.map m)) : ∀ t, P t
  | .nil => hn
  | .bool b => hb b
  | .int n => hi n
  | .float f => hf f
  | .str s => hs s
  | .list l => hl l fun x _hx => Tree.ind hn hb hi hf hs hl hm x
  | .map m => hm m fun p _hp => Tree.ind hn hb hi hf hs hl hm p.2
termination_by t => SizeOf.sizeOf t
decreasing_by
  · have := List.sizeOf_lt_of_mem _hx
    simp; omega
  · have h1 := List.sizeOf_lt_of_mem _hp
    have h2 : SizeOf.sizeOf p.2 < SizeOf.sizeOf p := by cases p; simp; omega
    simp; omega
mutual
def fromT : Tree → GV
  | .nil => .mk 0 0 0 ⟨#[]⟩ [] []
  | .bool b => .mk 1 (if b then 1 else 0) 0 ⟨#[]⟩ [] []
  | .int n => .mk 2 n 0 ⟨#[]⟩ [] []
  | .float f => .mk 3 0 f ⟨#[]⟩ [] []
  | .str s => .mk 4 0 0 s [] []
  | .list l => .mk 5 0 0 ⟨#[]⟩ [] (fromTs l)
  | .map m => mkMap (fromMs m)
def fromTs : List Tree → List GV
  | [] => []
  | x :: l => fromT x :: fromTs l
def fromMs : List (ByteArray × Tree) → List (ByteArray × GV)
  | [] => []
  | p :: m => sIns p.1 (fromT p.2) (fromMs m)
end
theorem fromTs_eq : ∀ l, fromTs l = l.map fromT
  | [] => by simp [fromTs]
  | x :: l => by simp [fromTs, fromTs_eq l]
theorem fromMs_sorted : ∀ m, Sorted (fromMs m)
  | [] => by simp [fromMs, Sorted]
  | p :: m => by simp only [fromMs]; exact sIns_sorted (fromMs_sorted m)
theorem fromMs_mem {k : ByteArray} {v : GV} : ∀ {m : List (ByteArray × Tree)}, (k, v) ∈ fromMs m → ∃ t, (k, t) ∈ m ∧ v = fromT t
  | [], h => by simp [fromMs] at h
  | p :: m, h => by
    simp only [fromMs] at h
    rcases mem_sIns h with h | h
    · cases h; exact ⟨p.2, List.mem_cons_self .., rfl⟩
    · obtain ⟨t, h1, h2⟩ := fromMs_mem h
      exact ⟨t, List.mem_cons_of_mem _ h1, h2⟩
theorem fromMs_keys (q : ByteArray) : ∀ m : List (ByteArray × Tree), q ∈ (fromMs m).map (·.1) ↔ q ∈ m.map (·.1)
  | [] => by simp [fromMs]
  | p :: m => by
    simp only [fromMs]
    have h : ∀ (k : ByteArray) (v : GV) (l : List (ByteArray × GV)), q ∈ (sIns k v l).map (·.1) ↔ q = k ∨ q ∈ l.map (·.1) := fun k v l => by
      induction l with
      | nil => simp [sIns]
      | cons y l ih =>
        simp only [sIns]
        split
        · simp only [List.map_cons, List.mem_cons, ih]
          constructor <;> rintro (h | h | h) <;> simp [h]
        · split
          · next h => simp [h]
          · simp
    rw [h, fromMs_keys q m]; simp
theorem sIns_mem_iff {k : ByteArray} {v : GV} {p : ByteArray × GV} : ∀ {m : List (ByteArray × GV)}, Sorted m → (p ∈ sIns k v m ↔ p = (k, v) ∨ (p ∈ m ∧ p.1 ≠ k))
  | [], _ => by simp [sIns]
  | q :: m, hs => by
    have hs' := hs
    simp only [Sorted, List.map_cons, List.pairwise_cons] at hs
    have hq : ∀ x ∈ m, blt q.1 x.1 = true := fun x hx => hs.1 x.1 (List.mem_map_of_mem hx)
    simp only [sIns]
    split
    · next hb =>
      rw [List.mem_cons, sIns_mem_iff hs.2, List.mem_cons]
      constructor
      · rintro (h | h | h)
        · subst h; exact .inr ⟨.inl rfl, blt_ne hb⟩
        · exact .inl h
        · exact .inr ⟨.inr h.1, h.2⟩
      · rintro (h | ⟨h | h, h2⟩)
        · exact .inr (.inl h)
        · exact .inl h
        · exact .inr (.inr ⟨h, h2⟩)
    · next hb =>
      split
      · next he =>
        rw [List.mem_cons, List.mem_cons]
        constructor
        · rintro (h | h)
          · exact .inl h
          · exact .inr ⟨.inr h, fun e => blt_ne (hq p h) (he.trans e.symm)⟩
        · rintro (h | ⟨h | h, h2⟩)
          · exact .inl h
          · subst h; exact absurd he h2
          · exact .inr h
      · next he =>
        have hk : blt k q.1 = true := by
          rcases blt_tri q.1 k with h' | h' | h'
          · exact absurd h' hb
          · exact absurd h' he
          · exact h'
        rw [List.mem_cons]
        constructor
        · rintro (h | h)
          · exact .inl h
          · refine .inr ⟨h, fun e => ?_⟩
            rcases List.mem_cons.1 h with rfl | h
            · exact he e
            · have := blt_trans hk (hq p h); rw [e, blt_irrefl] at this; cases this
        · rintro (h | ⟨h, _⟩)
          · exact .inl h
          · exact .inr h
theorem sorted_ext : ∀ {a b : List (ByteArray × GV)}, Sorted a → Sorted b → (∀ p, p ∈ a ↔ p ∈ b) → a = b
  | [], [], _, _, _ => rfl
  | [], y :: b, _, _, h => by have := (h y).2 (List.mem_cons_self ..); cases this
  | x :: a, [], _, _, h => by have := (h x).1 (List.mem_cons_self ..); cases this
  | x :: a, y :: b, ha, hb, h => by
    simp only [Sorted, List.map_cons, List.pairwise_cons] at ha hb
    have hx1 : ∀ p ∈ a, blt x.1 p.1 = true := fun p hp => ha.1 p.1 (List.mem_map_of_mem hp)
    have hy1 : ∀ p ∈ b, blt y.1 p.1 = true := fun p hp => hb.1 p.1 (List.mem_map_of_mem hp)
    have hxy : x = y := by
      rcases List.mem_cons.1 ((h x).1 (List.mem_cons_self ..)) with e | hx
      · exact e
      · rcases List.mem_cons.1 ((h y).2 (List.mem_cons_self ..)) with e | hy
        · exact e.symm
        · have h1 := hy1 x hx
          have h2 := hx1 y hy
          rw [blt_asymm h1] at h2; cases h2
    subst hxy
    rw [sorted_ext ha.2 hb.2 fun p => ?_]
    constructor
    · intro hp
      rcases List.mem_cons.1 ((h p).1 (List.mem_cons_of_mem _ hp)) with rfl | h'
      · have := hx1 p hp; rw [blt_irrefl] at this; cases this
      · exact h'
    · intro hp
      rcases List.mem_cons.1 ((h p).2 (List.mem_cons_of_mem _ hp)) with rfl | h'
      · have := hy1 p hp; rw [blt_irrefl] at this; cases this
      · exact h'
theorem sIns_twice {k : ByteArray} {a b : GV} {m : List (ByteArray × GV)} (hs : Sorted m) : sIns k a (sIns k b m) = sIns k a m := by
  refine sorted_ext (sIns_sorted (sIns_sorted hs)) (sIns_sorted hs) fun p => ?_
  rw [sIns_mem_iff (sIns_sorted hs), sIns_mem_iff hs, sIns_mem_iff hs]
  constructor
  · rintro (h | ⟨h | h, h2⟩)
    · exact .inl h
    · subst h; exact absurd rfl h2
    · exact .inr h
  · rintro (h | h)
    · exact .inl h
    · exact .inr ⟨.inr h, h.2⟩
theorem sIns_comm {k q : ByteArray} (hkq : k ≠ q) {a b : GV} {m : List (ByteArray × GV)} (hs : Sorted m) : sIns k a (sIns q b m) = sIns q b (sIns k a m) := by
  refine sorted_ext (sIns_sorted (sIns_sorted hs)) (sIns_sorted (sIns_sorted hs)) fun p => ?_
  rw [sIns_mem_iff (sIns_sorted hs), sIns_mem_iff hs, sIns_mem_iff (sIns_sorted hs), sIns_mem_iff hs]
  constructor
  · rintro (h | ⟨h | h, h2⟩)
    · exact .inr ⟨.inl h, by rw [h]; exact hkq⟩
    · exact .inl h
    · exact .inr ⟨.inr ⟨h.1, h2⟩, h.2⟩
  · rintro (h | ⟨h | h, h2⟩)
    · exact .inr ⟨.inl h, by rw [h]; exact hkq.symm⟩
    · exact .inl h
    · exact .inr ⟨.inr ⟨h.1, h2⟩, h.2⟩
theorem fromMs_ins (k : ByteArray) (t : Tree) : ∀ m : Fields, fromMs (ins k t m) = sIns k (fromT t) (fromMs m)
  | [] => by simp [ins, fromMs]
  | p :: m => by
    simp only [ins]
    split
    · next h => simp only [fromMs, h]; exact (sIns_twice (fromMs_sorted m)).symm
    · next h =>
      simp only [fromMs]
      rw [fromMs_ins k t m, sIns_comm h (fromMs_sorted m)]
theorem from_mapOf : ∀ (ks : List ByteArray) (l : List GV) (m : Fields), (∀ x ∈ l, fromT (treeOf x) = clean x) → fromMs (mapOf ks (treesOf l) m) = insAll ks (cleans l) (fromMs m)
  | [], l, m, _ => by cases l <;> simp [mapOf, treesOf, cleans, insAll]
  | k :: ks, [], m, _ => by simp [mapOf, treesOf, cleans, insAll]
  | k :: ks, x :: l, m, h => by
    simp only [treesOf, cleans, mapOf, insAll]
    rw [from_mapOf ks l _ fun y hy => h y (List.mem_cons_of_mem _ hy), fromMs_ins, h x (List.mem_cons_self ..)]
theorem from_tree (v : GV) : fromT (treeOf v) = clean v := by
  induction v using GV.ind with
  | h kind n f s keys l IH =>
  simp only [treeOf, clean]
  repeat' split
  all_goals (try simp only [fromT])
  all_goals (try rfl)
  · next h => subst h; simp
  · next h => simp [h]
  · have : fromTs (treesOf l) = cleans l := by
      rw [fromTs_eq, treesOf_eq, cleans_eq, List.map_map]
      exact List.map_congr_left fun x hx => IH x hx
    rw [this]
  · rw [from_mapOf keys l [] IH]; rfl
theorem insAll_vals : ∀ (ks : List ByteArray) (l : List GV) (m : List (ByteArray × GV)) (Q : GV → Prop), (∀ x ∈ l, Q x) → (∀ p ∈ m, Q p.2) → Sorted m → ∀ p ∈ insAll ks l m, Q p.2
  | [], l, m, Q, _, hm, _, p, hp => by cases l <;> exact hm p (by simpa [insAll] using hp)
  | k :: ks, [], m, Q, _, hm, _, p, hp => hm p (by simpa [insAll] using hp)
  | k :: ks, x :: l, m, Q, hl, hm, hs, p, hp => by
    simp only [insAll] at hp
    refine insAll_vals ks l _ Q (fun y hy => hl y (List.mem_cons_of_mem _ hy)) (fun q hq => ?_) (sIns_sorted hs) p hp
    rcases (sIns_mem_iff hs).1 hq with rfl | ⟨hq, _⟩
    · exact hl x (List.mem_cons_self ..)
    · exact hm q hq
end Go.Smd
end
section
set_option linter.unusedSimpArgs false
set_option maxRecDepth 100000
set_option maxHeartbeats 8000000
namespace Go.Smd
open Go.RowKit Go.Proofs
def asF (k n : Int) (f : Nat) : Nat := if k = 2 then toFl n else f
abbrev gvX (k n : Int) (f : Nat) (s : ByteArray) (ks : List ByteArray) (l : List GV) : Av := .agg [.d (dI k), .d (dI n), .d (dF f), .d (dS s), .d (dStrs ks), .d (dGVs l)]
theorem gvA_x (k n : Int) (f : Nat) (s : ByteArray) (ks : List ByteArray) (l : List GV) : gvA (.mk k n f s ks l) = gvX k n f s ks l := by simp only [gvA, gvD_mk, cls_cons, cls_nil]
theorem asFloat_x (k n : Int) (f : Nat) (s : ByteArray) (ks : List ByteArray) (l : List GV) : ACalls Try.prog 53 [gvX k n f s ks l] (fun r => r = aV (.float .f64 (asF k n f))) := by
  refine acalls_ex [] Try.func53 (by kernel_rfl) rfl Try.ntmps53 Try.results53 (Nat.le_of_ble_eq_true (by kernel_rfl)) ?_; intro hok w0 S0
  clear hok
  (repeat' (first
                                                            | (with_reducible refine br_d (fun _ => ?_) (fun _ => ?_))
                                                            | (with_reducible refine br_i (fun _ => ?_) (fun _ => ?_))
                                                            | ((with_reducible apply nd_next); (case hx => simp -dsimp [conv_a]; first | done | with_reducible rfl); (case hid => simp -dsimp [conv_a]; first | done | with_reducible rfl | exact ⟨rfl, rfl, rfl⟩ | exact ⟨rfl, rfl⟩); (case' h1 => intro _ _ _); (case' h0 => intro _))
                                                            | ((with_reducible apply nd_entry); (case hx => simp -dsimp [conv_a]; first | done | with_reducible rfl); (case hid => simp -dsimp [conv_a]; first | done | with_reducible rfl | exact ⟨rfl, rfl, rfl⟩ | exact ⟨rfl, rfl⟩))
                                                            | ((with_reducible apply nd_range); (case hx => simp -dsimp [conv_a]; with_reducible rfl); (case hT => simp -dsimp [conv_a]); (case hnd => assumption); (case hz => simp -dsimp [conv_a]))
                                                            | (with_reducible refine dn_i follows_any (by kernel_rfl) ?_)
                                                            | (with_reducible exact done_eq rfl)
                                                            | (simp -dsimp [conv_a]))); (all_goals try with_reducible refine done_eq ?_)
  all_goals simp_all [asF]
end Go.Smd
end
section
set_option linter.unusedSimpArgs false
set_option maxRecDepth 100000
set_option maxHeartbeats 8000000
namespace Go.Smd
open Go.RowKit Go.Proofs
structure EV where
  k : Int
  s : ByteArray
  keys : List ByteArray
  l : List GV
  v : GV
  n : Int
structure EVk (e : EV) : Prop where
  hk : -9223372036854775808 ≤ e.k ∧ e.k ≤ 9223372036854775807
  hkeys : e.keys.length * 16 ≤ 140737488351232
  hl : e.l.length * 88 ≤ 140737488351232
  hitem : ∀ x ∈ e.l, okA Try.prog (gvA x)
  hv : okA Try.prog (gvA e.v)
theorem toValue_x (k n : Int) (f : Nat) (s : ByteArray) (ks : List ByteArray) (l : List GV) : ACalls Try.prog 36 [gvX k n f s ks l] (fun r => r = .c (.d (dV (treeOf (.mk k n f s ks l))))) := by
  have h := toValue_a (.mk k n f s ks l)
  rw [gvA_x] at h; exact h
abbrev Fds := List (ByteArray × Tree)
inductive LE where
  | name (s : ByteArray)
  | key (l : Fds)
  | val (t : Tree)
  | idx (n : Int)
@[simp] theorem isStr_s : Try.prog.isStr 9 = true := by kernel_rfl
theorem conv_u8 (b : UInt8) : valPure Try.prog (convert 5 2 (.int .u8 b.toNat)) = some (.c (.d (.v (.int .i64 b.toNat)))) := by
  have hb := b.toNat_lt
  have h : evalPure Try.prog (convert 5 2 (.int .u8 b.toNat)) = some (.int .i64 b.toNat) := by
    have hw : IntKind.wrap .i64 (b.toNat : Int) = b.toNat := by rw [wrap_i64] <;> omega
    simp [convert, underlying, program, bind, Sem.bind, evalPure, pure, Conv.intToInt, hw]
  unfold valPure; rw [h]; simp [okVb, okInt]; omega
theorem plainList_a (l : List GV) (hl : l.length * 88 ≤ 140737488351232) : ACalls Try.prog 23 [.c (.d (dGVs l))] (fun r => r = .c (.d (dGVs (l.map clean)))) := by
  refine acalls_ex [] Try.func23 (by kernel_rfl) rfl Try.ntmps23 Try.results23 (Nat.le_of_ble_eq_true (by kernel_rfl)) ?_; intro hok w0 S0
  clear hok
  have b1 : l.length ≤ 9223372036854775807 := by omega
  have b2 : 88 * l.length ≤ 281474976710656 := by omega
  (repeat' (first
                                                            | (with_reducible refine br_d (fun _ => ?_) (fun _ => ?_))
                                                            | (with_reducible refine br_i (fun _ => ?_) (fun _ => ?_))
                                                            | ((with_reducible apply nd_next); (case hx => simp -dsimp [b1, b2]; first | done | with_reducible rfl); (case hid => simp -dsimp [b1, b2]; first | done | with_reducible rfl | exact ⟨rfl, rfl, rfl⟩ | exact ⟨rfl, rfl⟩); (case' h1 => intro _ _ _); (case' h0 => intro _))
                                                            | ((with_reducible apply nd_entry); (case hx => simp -dsimp [b1, b2]; first | done | with_reducible rfl); (case hid => simp -dsimp [b1, b2]; first | done | with_reducible rfl | exact ⟨rfl, rfl, rfl⟩ | exact ⟨rfl, rfl⟩))
                                                            | ((with_reducible apply nd_range); (case hx => simp -dsimp [b1, b2]; with_reducible rfl); (case hT => simp -dsimp [b1, b2]); (case hnd => assumption); (case hz => simp -dsimp [b1, b2]))
                                                            | (with_reducible refine dn_i follows_any (by kernel_rfl) ?_)
                                                            | (with_reducible exact done_eq rfl)
                                                            | (simp -dsimp [b1, b2]))); (all_goals try with_reducible refine done_eq ?_)
  refine ex_loop (fun i : Nat => ⟨[(3, .c (.gs 8 i)), (9, .c (.d (dGVs l))), (10, aI l.length), (11, aI i)], [(8, .arr i 29 ((l.map (gvD ∘ clean)).take i))]⟩) (fun i => i ≤ l.length) (fun i => l.length - i) 0 ?_ (Nat.zero_le _) ?_
  · exact Weak.same (by simp -dsimp) (by simp -dsimp) (by first | rfl | (simp [closedSt, Av.ids, Ow.ids, Cl.ids, Go.Smd.keys]; done))
  · rintro i hi K hK
    by_cases hlt : i < l.length
    · have hw : IntKind.wrap .i64 ((i : Int) + 1) = ((i + 1 : Nat) : Int) := by rw [wrap_i64] <;> omega
      have hb : (min i l.length + 1) * 88 ≤ 140737488351232 := by omega
      have h1 : (l.map (gvD ∘ clean)).take (i + 1) = (l.map (gvD ∘ clean)).take i ++ [gvD (clean l[i])] := by
        rw [List.take_succ_eq_append_getElem (by simpa using hlt)]
        simp
      (repeat' (first
                                                            | (with_reducible refine br_d (fun _ => ?_) (fun _ => ?_))
                                                            | (with_reducible refine br_i (fun _ => ?_) (fun _ => ?_))
                                                            | (with_reducible refine nd_v (clean_a _) (by first | rfl | (simp -dsimp [b1, hlt, hw, hb, toDs]; done)) ?_)
                                                            | (with_reducible refine nw_v (clean_a _) rfl (by first | rfl | (simp -dsimp [b1, hlt, hw, hb, toDs]; done)) (by first | rfl | (simp -dsimp [b1, hlt, hw, hb, toDs]; done)) ?_)
                                                            | ((with_reducible apply nd_next); (case hx => simp -dsimp [b1, hlt, hw, hb, toDs]; first | done | with_reducible rfl); (case hid => simp -dsimp [b1, hlt, hw, hb, toDs]; first | done | with_reducible rfl | exact ⟨rfl, rfl, rfl⟩ | exact ⟨rfl, rfl⟩); (case' h1 => intro _ _ _); (case' h0 => intro _))
                                                            | ((with_reducible apply nd_entry); (case hx => simp -dsimp [b1, hlt, hw, hb, toDs]; first | done | with_reducible rfl); (case hid => simp -dsimp [b1, hlt, hw, hb, toDs]; first | done | with_reducible rfl | exact ⟨rfl, rfl, rfl⟩ | exact ⟨rfl, rfl⟩))
                                                            | ((with_reducible apply nd_range); (case hx => simp -dsimp [b1, hlt, hw, hb, toDs]; with_reducible rfl); (case hT => simp -dsimp [b1, hlt, hw, hb, toDs]); (case hnd => assumption); (case hz => simp -dsimp [b1, hlt, hw, hb, toDs]))
                                                            | (with_reducible refine dn_i follows_any (by kernel_rfl) ?_)
                                                            | (with_reducible exact done_eq rfl)
                                                            | (simp -dsimp [b1, hlt, hw, hb, toDs]))); (all_goals try with_reducible refine done_eq ?_)
      refine hK _ (i + 1) ?_ (by omega) (by omega)
      rw [h1]
      exact Weak.same (by simp -dsimp) (by simp -dsimp) (by first | rfl | (simp [closedSt, Av.ids, Ow.ids, Cl.ids, Go.Smd.keys]; done))
    · (repeat' (first
                                                            | (with_reducible refine br_d (fun _ => ?_) (fun _ => ?_))
                                                            | (with_reducible refine br_i (fun _ => ?_) (fun _ => ?_))
                                                            | ((with_reducible apply nd_next); (case hx => simp -dsimp [hlt]; first | done | with_reducible rfl); (case hid => simp -dsimp [hlt]; first | done | with_reducible rfl | exact ⟨rfl, rfl, rfl⟩ | exact ⟨rfl, rfl⟩); (case' h1 => intro _ _ _); (case' h0 => intro _))
                                                            | ((with_reducible apply nd_entry); (case hx => simp -dsimp [hlt]; first | done | with_reducible rfl); (case hid => simp -dsimp [hlt]; first | done | with_reducible rfl | exact ⟨rfl, rfl, rfl⟩ | exact ⟨rfl, rfl⟩))
                                                            | ((with_reducible apply nd_range); (case hx => simp -dsimp [hlt]; with_reducible rfl); (case hT => simp -dsimp [hlt]); (case hnd => assumption); (case hz => simp -dsimp [hlt]))
                                                            | (with_reducible refine dn_i follows_any (by kernel_rfl) ?_)
                                                            | (with_reducible exact done_eq rfl)
                                                            | (simp -dsimp [hlt]))); (all_goals try with_reducible refine done_eq ?_)
      rw [List.take_of_length_le (by simp; omega)]
      show _ = Av.c (.d (.sl _ ((l.map clean).map gvD)))
      rw [List.map_map]
structure FitsE (e : EV) : Prop where
  items : ∀ x ∈ e.l, Fits (treeOf x)
  val : Fits (treeOf e.v)
end Go.Smd
end
section
set_option linter.unusedSimpArgs false
set_option maxRecDepth 100000
set_option maxHeartbeats 8000000
namespace Go.Smd
open Go.RowKit Go.Proofs
theorem orderlyValues_v (l : List GV) (hl : l.length * 88 ≤ 140737488351232) : ACalls Try.prog 6 [.c (.d (dGVs l))] (fun r => r = aV (.bool (l.all orderly))) := by
  refine acalls_ex [] Try.func6 (by kernel_rfl) rfl Try.ntmps6 Try.results6 (Nat.le_of_ble_eq_true (by kernel_rfl)) ?_; intro hok w0 S0
  clear hok
  have b1 : l.length ≤ 9223372036854775807 := by omega
  (repeat' (first
                                                            | (with_reducible refine br_d (fun _ => ?_) (fun _ => ?_))
                                                            | (with_reducible refine br_i (fun _ => ?_) (fun _ => ?_))
                                                            | ((with_reducible apply nd_next); (case hx => simp -dsimp [b1]; first | done | with_reducible rfl); (case hid => simp -dsimp [b1]; first | done | with_reducible rfl | exact ⟨rfl, rfl, rfl⟩ | exact ⟨rfl, rfl⟩); (case' h1 => intro _ _ _); (case' h0 => intro _))
                                                            | ((with_reducible apply nd_entry); (case hx => simp -dsimp [b1]; first | done | with_reducible rfl); (case hid => simp -dsimp [b1]; first | done | with_reducible rfl | exact ⟨rfl, rfl, rfl⟩ | exact ⟨rfl, rfl⟩))
                                                            | ((with_reducible apply nd_range); (case hx => simp -dsimp [b1]; with_reducible rfl); (case hT => simp -dsimp [b1]); (case hnd => assumption); (case hz => simp -dsimp [b1]))
                                                            | (with_reducible refine dn_i follows_any (by kernel_rfl) ?_)
                                                            | (with_reducible exact done_eq rfl)
                                                            | (simp -dsimp [b1]))); (all_goals try with_reducible refine done_eq ?_)
  refine ex_loop (fun i : Nat => ⟨[(5, .c (.d (dGVs l))), (6, aI l.length), (7, aI i)], []⟩) (fun i => i ≤ l.length ∧ (l.take i).all orderly = true) (fun i => l.length - i) 0 ?_ ⟨Nat.zero_le _, rfl⟩ ?_
  · exact Weak.same (by simp -dsimp) (by simp -dsimp) (by first | rfl | (simp [closedSt, Av.ids, Ow.ids, Cl.ids, Go.Smd.keys]; done))
  · rintro i ⟨hi, hall⟩ K hK
    by_cases hlt : i < l.length
    · have hw : IntKind.wrap .i64 ((i : Int) + 1) = ((i + 1 : Nat) : Int) := by rw [wrap_i64] <;> omega
      have ho := orderly_a l[i]
      by_cases hz : orderly l[i] = true
      · rw [hz] at ho
        (repeat' (first
                                                            | (with_reducible refine br_d (fun _ => ?_) (fun _ => ?_))
                                                            | (with_reducible refine br_i (fun _ => ?_) (fun _ => ?_))
                                                            | (with_reducible refine nd_v (ho) (by first | rfl | (simp -dsimp [b1, hlt, hw]; done)) ?_)
                                                            | (with_reducible refine nw_v (ho) rfl (by first | rfl | (simp -dsimp [b1, hlt, hw]; done)) (by first | rfl | (simp -dsimp [b1, hlt, hw]; done)) ?_)
                                                            | ((with_reducible apply nd_next); (case hx => simp -dsimp [b1, hlt, hw]; first | done | with_reducible rfl); (case hid => simp -dsimp [b1, hlt, hw]; first | done | with_reducible rfl | exact ⟨rfl, rfl, rfl⟩ | exact ⟨rfl, rfl⟩); (case' h1 => intro _ _ _); (case' h0 => intro _))
                                                            | ((with_reducible apply nd_entry); (case hx => simp -dsimp [b1, hlt, hw]; first | done | with_reducible rfl); (case hid => simp -dsimp [b1, hlt, hw]; first | done | with_reducible rfl | exact ⟨rfl, rfl, rfl⟩ | exact ⟨rfl, rfl⟩))
                                                            | ((with_reducible apply nd_range); (case hx => simp -dsimp [b1, hlt, hw]; with_reducible rfl); (case hT => simp -dsimp [b1, hlt, hw]); (case hnd => assumption); (case hz => simp -dsimp [b1, hlt, hw]))
                                                            | (with_reducible refine dn_i follows_any (by kernel_rfl) ?_)
                                                            | (with_reducible exact done_eq rfl)
                                                            | (simp -dsimp [b1, hlt, hw]))); (all_goals try with_reducible refine done_eq ?_)
        refine hK _ (i + 1) ?_ ⟨by omega, by rw [List.take_succ_eq_append_getElem hlt, List.all_append, hall]; simp [hz]⟩ (by omega)
        exact Weak.same (by simp -dsimp) (by simp -dsimp) (by first | rfl | (simp [closedSt, Av.ids, Ow.ids, Cl.ids, Go.Smd.keys]; done))
      · have hz : orderly l[i] = false := by simpa using hz
        rw [hz] at ho
        (repeat' (first
                                                            | (with_reducible refine br_d (fun _ => ?_) (fun _ => ?_))
                                                            | (with_reducible refine br_i (fun _ => ?_) (fun _ => ?_))
                                                            | (with_reducible refine nd_v (ho) (by first | rfl | (simp -dsimp [b1, hlt, hw]; done)) ?_)
                                                            | (with_reducible refine nw_v (ho) rfl (by first | rfl | (simp -dsimp [b1, hlt, hw]; done)) (by first | rfl | (simp -dsimp [b1, hlt, hw]; done)) ?_)
                                                            | ((with_reducible apply nd_next); (case hx => simp -dsimp [b1, hlt, hw]; first | done | with_reducible rfl); (case hid => simp -dsimp [b1, hlt, hw]; first | done | with_reducible rfl | exact ⟨rfl, rfl, rfl⟩ | exact ⟨rfl, rfl⟩); (case' h1 => intro _ _ _); (case' h0 => intro _))
                                                            | ((with_reducible apply nd_entry); (case hx => simp -dsimp [b1, hlt, hw]; first | done | with_reducible rfl); (case hid => simp -dsimp [b1, hlt, hw]; first | done | with_reducible rfl | exact ⟨rfl, rfl, rfl⟩ | exact ⟨rfl, rfl⟩))
                                                            | ((with_reducible apply nd_range); (case hx => simp -dsimp [b1, hlt, hw]; with_reducible rfl); (case hT => simp -dsimp [b1, hlt, hw]); (case hnd => assumption); (case hz => simp -dsimp [b1, hlt, hw]))
                                                            | (with_reducible refine dn_i follows_any (by kernel_rfl) ?_)
                                                            | (with_reducible exact done_eq rfl)
                                                            | (simp -dsimp [b1, hlt, hw]))); (all_goals try with_reducible refine done_eq ?_)
        have : l.all orderly = false := by
          rw [Bool.eq_false_iff]
          intro h
          have := List.all_eq_true.1 h _ (List.getElem_mem hlt)
          rw [hz] at this; cases this
        rw [this]
    · have e : l.take i = l := List.take_of_length_le (by omega)
      rw [e] at hall
      rw [hall]
      (repeat' (first
                                                            | (with_reducible refine br_d (fun _ => ?_) (fun _ => ?_))
                                                            | (with_reducible refine br_i (fun _ => ?_) (fun _ => ?_))
                                                            | ((with_reducible apply nd_next); (case hx => simp -dsimp [hlt]; first | done | with_reducible rfl); (case hid => simp -dsimp [hlt]; first | done | with_reducible rfl | exact ⟨rfl, rfl, rfl⟩ | exact ⟨rfl, rfl⟩); (case' h1 => intro _ _ _); (case' h0 => intro _))
                                                            | ((with_reducible apply nd_entry); (case hx => simp -dsimp [hlt]; first | done | with_reducible rfl); (case hid => simp -dsimp [hlt]; first | done | with_reducible rfl | exact ⟨rfl, rfl, rfl⟩ | exact ⟨rfl, rfl⟩))
                                                            | ((with_reducible apply nd_range); (case hx => simp -dsimp [hlt]; with_reducible rfl); (case hT => simp -dsimp [hlt]); (case hnd => assumption); (case hz => simp -dsimp [hlt]))
                                                            | (with_reducible refine dn_i follows_any (by kernel_rfl) ?_)
                                                            | (with_reducible exact done_eq rfl)
                                                            | (simp -dsimp [hlt]))); (all_goals try with_reducible refine done_eq ?_)
theorem cmpV_eqV (a b : GV) (ha : Fits (treeOf a)) (hb : Fits (treeOf b)) (oa : orderly a = true) (ob : orderly b = true) : cmpV (treeOf a) (treeOf b) = 0 ↔ eqV (treeOf a) (treeOf b) = true :=
  cmp_eq _ _ _ (Nat.le_refl _) ha hb (ord_of a oa) (ord_of b ob)
theorem fits_all {l : List GV} (h : okD Try.prog (dGVs l)) : l.length * 88 ≤ 140737488351232 ∧ ∀ x ∈ l, Fits (treeOf x) := by
  have := gvs_ok h
  exact ⟨this.1, fun x hx => gv_fits (this.2 x hx)⟩
end Go.Smd
end
section
set_option linter.unusedSimpArgs false
set_option maxRecDepth 100000
set_option maxHeartbeats 8000000
namespace Go.Smd
open Go.RowKit Go.Proofs
def cmpS (s t : ByteArray) : Int := Lib.compareBytes s.data.toList t.data.toList
def rkV (k : Int) : Int := if k = 2 ∨ k = 3 then 0 else if k = 4 then 1 else if k = 1 then 2 else if k = 5 then 3 else if k = 6 then 4 else 5
mutual
def cmpP : GV → GV → Int
  | .mk k n f s ks l, .mk k' n' f' s' ks' l' =>
    if cmpI (rkV k) (rkV k') ≠ 0 then cmpI (rkV k) (rkV k')
    else if rkV k = 0 then (if k = 2 ∧ k' = 2 then cmpI n n' else cmpFl (asF k n f) (asF k' n' f'))
    else if rkV k = 1 then cmpS s s'
    else if rkV k = 2 then cmpI n n'
    else if rkV k = 3 then cmpPs l l'
    else if rkV k = 4 then cmpPm ks l ks' l'
    else 0
def cmpPs : List GV → List GV → Int
  | x :: l, y :: m => if cmpP x y ≠ 0 then cmpP x y else cmpPs l m
  | [], [] => 0
  | [], _ :: _ => -1
  | _ :: _, [] => 1
def cmpPm : List ByteArray → List GV → List ByteArray → List GV → Int
  | k :: ks, x :: l, k' :: ks', y :: l' => if cmpS k k' ≠ 0 then cmpS k k' else if cmpP x y ≠ 0 then cmpP x y else cmpPm ks l ks' l'
  | ks, _, ks', _ => cmpI ks.length ks'.length
end
theorem cmpI_add (a b c : Int) : cmpI (a + c) (b + c) = cmpI a b := by
  unfold cmpI
  by_cases h1 : b < a
  · rw [if_pos h1, if_pos (by omega)]
  · by_cases h2 : a < b
    · rw [if_neg h1, if_pos h2, if_neg (by omega), if_pos (by omega)]
    · rw [if_neg h1, if_neg h2, if_neg (by omega), if_neg (by omega)]
theorem cmpI_sub {a b : Nat} (c : Nat) (ha : c ≤ a) (hb : c ≤ b) : cmpI (a : Int) b = cmpI ((a - c : Nat) : Int) ((b - c : Nat) : Int) := by
  rw [← cmpI_add ((a - c : Nat) : Int) ((b - c : Nat) : Int) c]
  congr 1 <;> omega
theorem compareInts_v (a b : Int) : ACalls Try.prog 30 [aI a, aI b] (fun r => r = aI (cmpI a b)) := by
  refine acalls_ex [] Try.func30 (by kernel_rfl) rfl Try.ntmps30 Try.results30 (Nat.le_of_ble_eq_true (by kernel_rfl)) ?_; intro hok w0 S0
  clear hok
  (repeat' (first
                                                            | (with_reducible refine br_d (fun _ => ?_) (fun _ => ?_))
                                                            | (with_reducible refine br_i (fun _ => ?_) (fun _ => ?_))
                                                            | ((with_reducible apply nd_next); (case hx => simp -dsimp; first | done | with_reducible rfl); (case hid => simp -dsimp; first | done | with_reducible rfl | exact ⟨rfl, rfl, rfl⟩ | exact ⟨rfl, rfl⟩); (case' h1 => intro _ _ _); (case' h0 => intro _))
                                                            | ((with_reducible apply nd_entry); (case hx => simp -dsimp; first | done | with_reducible rfl); (case hid => simp -dsimp; first | done | with_reducible rfl | exact ⟨rfl, rfl, rfl⟩ | exact ⟨rfl, rfl⟩))
                                                            | ((with_reducible apply nd_range); (case hx => simp -dsimp; with_reducible rfl); (case hT => simp -dsimp); (case hnd => assumption); (case hz => simp -dsimp))
                                                            | (with_reducible refine dn_i follows_any (by kernel_rfl) ?_)
                                                            | (with_reducible exact done_eq rfl)
                                                            | (simp -dsimp))); (all_goals try with_reducible refine done_eq ?_)
  · rename_i h
    unfold cmpI; rw [if_neg (by omega), if_pos h]
  · rename_i h1 h2
    unfold cmpI; rw [if_pos (by omega)]
  · rename_i h1 h2
    unfold cmpI; rw [if_neg (by omega), if_neg (by omega)]
theorem compareFloats_v (a b : Nat) : ACalls Try.prog 52 [aV (.float .f64 a), aV (.float .f64 b)] (fun r => r = aI (cmpFl a b)) := by
  refine acalls_ex [] Try.func52 (by kernel_rfl) rfl Try.ntmps52 Try.results52 (Nat.le_of_ble_eq_true (by kernel_rfl)) ?_; intro hok w0 S0
  clear hok
  (repeat' (first
                                                            | (with_reducible refine br_d (fun _ => ?_) (fun _ => ?_))
                                                            | (with_reducible refine br_i (fun _ => ?_) (fun _ => ?_))
                                                            | ((with_reducible apply nd_next); (case hx => simp -dsimp; first | done | with_reducible rfl); (case hid => simp -dsimp; first | done | with_reducible rfl | exact ⟨rfl, rfl, rfl⟩ | exact ⟨rfl, rfl⟩); (case' h1 => intro _ _ _); (case' h0 => intro _))
                                                            | ((with_reducible apply nd_entry); (case hx => simp -dsimp; first | done | with_reducible rfl); (case hid => simp -dsimp; first | done | with_reducible rfl | exact ⟨rfl, rfl, rfl⟩ | exact ⟨rfl, rfl⟩))
                                                            | ((with_reducible apply nd_range); (case hx => simp -dsimp; with_reducible rfl); (case hT => simp -dsimp); (case hnd => assumption); (case hz => simp -dsimp))
                                                            | (with_reducible refine dn_i follows_any (by kernel_rfl) ?_)
                                                            | (with_reducible exact done_eq rfl)
                                                            | (simp -dsimp))); (all_goals try with_reducible refine done_eq ?_)
  · rename_i h
    have h : FloatKind.f64.format.order a b = some .lt := by simpa using h
    unfold cmpFl; rw [h]; rfl
  · rename_i h1 h2
    unfold cmpFl; rw [if_pos (by simpa using h2)]
  · rename_i h1 h2
    unfold cmpFl; rw [if_neg (by simpa using h2), if_neg (by simpa using h1)]
theorem kindRank_x (k n : Int) (f : Nat) (s : ByteArray) (ks : List ByteArray) (l : List GV) : ACalls Try.prog 51 [gvX k n f s ks l] (fun r => r = aI (rkV k)) := by
  refine acalls_ex [] Try.func51 (by kernel_rfl) rfl Try.ntmps51 Try.results51 (Nat.le_of_ble_eq_true (by kernel_rfl)) ?_; intro hok w0 S0
  clear hok
  (repeat' (first
                                                            | (with_reducible refine br_d (fun _ => ?_) (fun _ => ?_))
                                                            | (with_reducible refine br_i (fun _ => ?_) (fun _ => ?_))
                                                            | ((with_reducible apply nd_next); (case hx => simp -dsimp; first | done | with_reducible rfl); (case hid => simp -dsimp; first | done | with_reducible rfl | exact ⟨rfl, rfl, rfl⟩ | exact ⟨rfl, rfl⟩); (case' h1 => intro _ _ _); (case' h0 => intro _))
                                                            | ((with_reducible apply nd_entry); (case hx => simp -dsimp; first | done | with_reducible rfl); (case hid => simp -dsimp; first | done | with_reducible rfl | exact ⟨rfl, rfl, rfl⟩ | exact ⟨rfl, rfl⟩))
                                                            | ((with_reducible apply nd_range); (case hx => simp -dsimp; with_reducible rfl); (case hT => simp -dsimp); (case hnd => assumption); (case hz => simp -dsimp))
                                                            | (with_reducible refine dn_i follows_any (by kernel_rfl) ?_)
                                                            | (with_reducible exact done_eq rfl)
                                                            | (simp -dsimp))); (all_goals try with_reducible refine done_eq ?_)
  all_goals simp_all [rkV]
theorem bytes_at (s : ByteArray) (i : Nat) (h : i < s.size) : s.data.toList.drop i = s[i] :: s.data.toList.drop (i + 1) := by
  rw [List.drop_eq_getElem_cons (by simpa using h)]
  rfl
theorem cmpBytes_cons (a b : UInt8) (l m : List UInt8) : Lib.compareBytes (a :: l) (b :: m) = if a = b then Lib.compareBytes l m else cmpI (a.toNat : Int) b.toNat := by
  simp only [Lib.compareBytes]
  unfold cmpI
  by_cases h : a < b
  · have h' : a.toNat < b.toNat := UInt8.lt_iff_toNat_lt.1 h
    have hne : a ≠ b := fun e => by subst e; omega
    rw [if_pos h, if_neg hne, if_neg (by omega), if_pos (by omega)]
  · by_cases h2 : b < a
    · have h' : b.toNat < a.toNat := UInt8.lt_iff_toNat_lt.1 h2
      have hne : a ≠ b := fun e => by subst e; omega
      rw [if_neg h, if_pos h2, if_neg hne, if_pos (by omega)]
    · have he : a = b := by
        rw [UInt8.lt_iff_toNat_lt] at h h2
        exact UInt8.toNat_inj.1 (by omega)
      rw [if_neg h, if_neg h2, if_pos he]
theorem cmpBytes_nil (l m : List UInt8) (h : l = [] ∨ m = []) : Lib.compareBytes l m = cmpI (l.length : Int) m.length := by
  cases l with
  | nil => cases m with
    | nil => rfl
    | cons y m => simp only [Lib.compareBytes, cmpI]; rw [if_neg (by first | (simp; done) | (simp; omega)), if_pos (by first | (simp; done) | (simp; omega))]
  | cons x l => cases m with
    | nil => simp only [Lib.compareBytes, cmpI]; rw [if_pos (by first | (simp; done) | (simp; omega))]
    | cons y m => simp at h
theorem compareStrings_v (s t : ByteArray) : ACalls Try.prog 28 [aS s, aS t] (fun r => r = aI (cmpS s t)) := by
  refine acalls_ex [(4, ([], [(0, []), (1, []), (2, []), (3, []), (4, []), (5, []), (6, [])])), (5, ([8], [(0, []), (1, []), (2, []), (3, []), (4, []), (5, []), (6, []), (7, []), (8, []), (9, [])]))] Try.func28 (by kernel_rfl) rfl Try.ntmps28 Try.results28 (Nat.le_of_ble_eq_true (by kernel_rfl)) ?_; intro hok w0 S0
  have b1 := okD_str (okA_c (hok (aS s) (by simp)))
  have b2 := okD_str (okA_c (hok (aS t) (by simp)))
  clear hok
  (repeat' (first
                                                            | (with_reducible refine br_d (fun _ => ?_) (fun _ => ?_))
                                                            | (with_reducible refine br_i (fun _ => ?_) (fun _ => ?_))
                                                            | ((with_reducible apply nd_next); (case hx => simp -dsimp; first | done | with_reducible rfl); (case hid => simp -dsimp; first | done | with_reducible rfl | exact ⟨rfl, rfl, rfl⟩ | exact ⟨rfl, rfl⟩); (case' h1 => intro _ _ _); (case' h0 => intro _))
                                                            | ((with_reducible apply nd_entry); (case hx => simp -dsimp; first | done | with_reducible rfl); (case hid => simp -dsimp; first | done | with_reducible rfl | exact ⟨rfl, rfl, rfl⟩ | exact ⟨rfl, rfl⟩))
                                                            | ((with_reducible apply nd_range); (case hx => simp -dsimp; with_reducible rfl); (case hT => simp -dsimp); (case hnd => assumption); (case hz => simp -dsimp))
                                                            | (with_reducible refine dn_i follows_any (by kernel_rfl) ?_)
                                                            | (with_reducible exact done_eq rfl)
                                                            | (simp -dsimp))); (all_goals try with_reducible refine done_eq ?_)
  refine ex_loop (fun i : Nat => ⟨[(0, aS s), (1, aS t), (5, aI i)], []⟩) (fun i => i ≤ s.size ∧ i ≤ t.size ∧ cmpS s t = Lib.compareBytes (s.data.toList.drop i) (t.data.toList.drop i)) (fun i => s.size - i) 0 ?_ ⟨Nat.zero_le _, Nat.zero_le _, rfl⟩ ?_
  · exact Weak.same (by simp -dsimp) (by simp -dsimp) (by first | rfl | (simp [closedSt, Av.ids, Ow.ids, Cl.ids, Go.Smd.keys]; done))
  · rintro i ⟨hi, hj, heq⟩ K hK
    have hw : IntKind.wrap .i64 ((i : Int) + 1) = ((i + 1 : Nat) : Int) := by rw [wrap_i64] <;> omega
    have hend : ¬ (i < s.size ∧ i < t.size) → cmpS s t = cmpI (s.size : Int) t.size := fun h => by
      have l1 : (s.data.toList.drop i).length = s.size - i := by rw [List.length_drop, Array.length_toList]; rfl
      have l2 : (t.data.toList.drop i).length = t.size - i := by rw [List.length_drop, Array.length_toList]; rfl
      rw [heq, cmpBytes_nil _ _ (by
        by_cases h1 : i < s.size
        · exact .inr (List.eq_nil_of_length_eq_zero (by omega))
        · exact .inl (List.eq_nil_of_length_eq_zero (by omega))), l1, l2, ← cmpI_sub i hi hj]
    by_cases h1 : i < s.size
    · by_cases h2 : i < t.size
      · have hc : cmpS s t = if s[i] = t[i] then Lib.compareBytes (s.data.toList.drop (i + 1)) (t.data.toList.drop (i + 1)) else cmpI (s[i].toNat : Int) t[i].toNat := by
          rw [heq, bytes_at s i h1, bytes_at t i h2, cmpBytes_cons]
        have hcc := compareInts_v (s[i].toNat : Int) t[i].toNat
        by_cases he : s[i] = t[i]
        · rw [if_pos he] at hc
          (repeat' (first
                                                            | (with_reducible refine br_d (fun _ => ?_) (fun _ => ?_))
                                                            | (with_reducible refine br_i (fun _ => ?_) (fun _ => ?_))
                                                            | (with_reducible refine nd_v (hcc) (by first | rfl | (simp -dsimp [hw, h1, h2, he, conv_u8]; done)) ?_)
                                                            | (with_reducible refine nw_v (hcc) rfl (by first | rfl | (simp -dsimp [hw, h1, h2, he, conv_u8]; done)) (by first | rfl | (simp -dsimp [hw, h1, h2, he, conv_u8]; done)) ?_)
                                                            | ((with_reducible apply nd_next); (case hx => simp -dsimp [hw, h1, h2, he, conv_u8]; first | done | with_reducible rfl); (case hid => simp -dsimp [hw, h1, h2, he, conv_u8]; first | done | with_reducible rfl | exact ⟨rfl, rfl, rfl⟩ | exact ⟨rfl, rfl⟩); (case' h1 => intro _ _ _); (case' h0 => intro _))
                                                            | ((with_reducible apply nd_entry); (case hx => simp -dsimp [hw, h1, h2, he, conv_u8]; first | done | with_reducible rfl); (case hid => simp -dsimp [hw, h1, h2, he, conv_u8]; first | done | with_reducible rfl | exact ⟨rfl, rfl, rfl⟩ | exact ⟨rfl, rfl⟩))
                                                            | ((with_reducible apply nd_range); (case hx => simp -dsimp [hw, h1, h2, he, conv_u8]; with_reducible rfl); (case hT => simp -dsimp [hw, h1, h2, he, conv_u8]); (case hnd => assumption); (case hz => simp -dsimp [hw, h1, h2, he, conv_u8]))
                                                            | (with_reducible refine dn_i follows_any (by kernel_rfl) ?_)
                                                            | (with_reducible exact done_eq rfl)
                                                            | (simp -dsimp [hw, h1, h2, he, conv_u8]))); (all_goals try with_reducible refine done_eq ?_)
          refine hK _ (i + 1) ?_ ⟨by omega, by omega, hc⟩ (by omega)
          exact Weak.same (by simp -dsimp) (by simp -dsimp) (by first | rfl | (simp [closedSt, Av.ids, Ow.ids, Cl.ids, Go.Smd.keys]; done))
        · rw [if_neg he] at hc
          have he2 : ¬ ((s[i].toNat : Int) = t[i].toNat) := fun e => he (UInt8.toNat_inj.1 (by omega))
          (repeat' (first
                                                            | (with_reducible refine br_d (fun _ => ?_) (fun _ => ?_))
                                                            | (with_reducible refine br_i (fun _ => ?_) (fun _ => ?_))
                                                            | (with_reducible refine nd_v (hcc) (by first | rfl | (simp -dsimp [hw, h1, h2, he, he2, conv_u8]; done)) ?_)
                                                            | (with_reducible refine nw_v (hcc) rfl (by first | rfl | (simp -dsimp [hw, h1, h2, he, he2, conv_u8]; done)) (by first | rfl | (simp -dsimp [hw, h1, h2, he, he2, conv_u8]; done)) ?_)
                                                            | ((with_reducible apply nd_next); (case hx => simp -dsimp [hw, h1, h2, he, he2, conv_u8]; first | done | with_reducible rfl); (case hid => simp -dsimp [hw, h1, h2, he, he2, conv_u8]; first | done | with_reducible rfl | exact ⟨rfl, rfl, rfl⟩ | exact ⟨rfl, rfl⟩); (case' h1 => intro _ _ _); (case' h0 => intro _))
                                                            | ((with_reducible apply nd_entry); (case hx => simp -dsimp [hw, h1, h2, he, he2, conv_u8]; first | done | with_reducible rfl); (case hid => simp -dsimp [hw, h1, h2, he, he2, conv_u8]; first | done | with_reducible rfl | exact ⟨rfl, rfl, rfl⟩ | exact ⟨rfl, rfl⟩))
                                                            | ((with_reducible apply nd_range); (case hx => simp -dsimp [hw, h1, h2, he, he2, conv_u8]; with_reducible rfl); (case hT => simp -dsimp [hw, h1, h2, he, he2, conv_u8]); (case hnd => assumption); (case hz => simp -dsimp [hw, h1, h2, he, he2, conv_u8]))
                                                            | (with_reducible refine dn_i follows_any (by kernel_rfl) ?_)
                                                            | (with_reducible exact done_eq rfl)
                                                            | (simp -dsimp [hw, h1, h2, he, he2, conv_u8]))); (all_goals try with_reducible refine done_eq ?_)
          rw [hc]
      · have hcc := compareInts_v (s.size : Int) t.size
        have hc := hend (fun h => h2 h.2)
        (repeat' (first
                                                            | (with_reducible refine br_d (fun _ => ?_) (fun _ => ?_))
                                                            | (with_reducible refine br_i (fun _ => ?_) (fun _ => ?_))
                                                            | (with_reducible refine nd_v (hcc) (by first | rfl | (simp -dsimp [hw, h1, h2]; done)) ?_)
                                                            | (with_reducible refine nw_v (hcc) rfl (by first | rfl | (simp -dsimp [hw, h1, h2]; done)) (by first | rfl | (simp -dsimp [hw, h1, h2]; done)) ?_)
                                                            | ((with_reducible apply nd_next); (case hx => simp -dsimp [hw, h1, h2]; first | done | with_reducible rfl); (case hid => simp -dsimp [hw, h1, h2]; first | done | with_reducible rfl | exact ⟨rfl, rfl, rfl⟩ | exact ⟨rfl, rfl⟩); (case' h1 => intro _ _ _); (case' h0 => intro _))
                                                            | ((with_reducible apply nd_entry); (case hx => simp -dsimp [hw, h1, h2]; first | done | with_reducible rfl); (case hid => simp -dsimp [hw, h1, h2]; first | done | with_reducible rfl | exact ⟨rfl, rfl, rfl⟩ | exact ⟨rfl, rfl⟩))
                                                            | ((with_reducible apply nd_range); (case hx => simp -dsimp [hw, h1, h2]; with_reducible rfl); (case hT => simp -dsimp [hw, h1, h2]); (case hnd => assumption); (case hz => simp -dsimp [hw, h1, h2]))
                                                            | (with_reducible refine dn_i follows_any (by kernel_rfl) ?_)
                                                            | (with_reducible exact done_eq rfl)
                                                            | (simp -dsimp [hw, h1, h2]))); (all_goals try with_reducible refine done_eq ?_)
        rw [hc]
    · have hcc := compareInts_v (s.size : Int) t.size
      have hc := hend (fun h => h1 h.1)
      (repeat' (first
                                                            | (with_reducible refine br_d (fun _ => ?_) (fun _ => ?_))
                                                            | (with_reducible refine br_i (fun _ => ?_) (fun _ => ?_))
                                                            | (with_reducible refine nd_v (hcc) (by first | rfl | (simp -dsimp [hw, h1]; done)) ?_)
                                                            | (with_reducible refine nw_v (hcc) rfl (by first | rfl | (simp -dsimp [hw, h1]; done)) (by first | rfl | (simp -dsimp [hw, h1]; done)) ?_)
                                                            | ((with_reducible apply nd_next); (case hx => simp -dsimp [hw, h1]; first | done | with_reducible rfl); (case hid => simp -dsimp [hw, h1]; first | done | with_reducible rfl | exact ⟨rfl, rfl, rfl⟩ | exact ⟨rfl, rfl⟩); (case' h1 => intro _ _ _); (case' h0 => intro _))
                                                            | ((with_reducible apply nd_entry); (case hx => simp -dsimp [hw, h1]; first | done | with_reducible rfl); (case hid => simp -dsimp [hw, h1]; first | done | with_reducible rfl | exact ⟨rfl, rfl, rfl⟩ | exact ⟨rfl, rfl⟩))
                                                            | ((with_reducible apply nd_range); (case hx => simp -dsimp [hw, h1]; with_reducible rfl); (case hT => simp -dsimp [hw, h1]); (case hnd => assumption); (case hz => simp -dsimp [hw, h1]))
                                                            | (with_reducible refine dn_i follows_any (by kernel_rfl) ?_)
                                                            | (with_reducible exact done_eq rfl)
                                                            | (simp -dsimp [hw, h1]))); (all_goals try with_reducible refine done_eq ?_)
      rw [hc]
end Go.Smd
end
