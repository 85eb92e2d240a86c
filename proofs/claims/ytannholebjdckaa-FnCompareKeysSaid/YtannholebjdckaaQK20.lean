/- Part 20 of the proof: Ft Eq El Ov. -/
import Derived.Test.YtannholebjdckaaQK12
import Derived.Test.YtannholebjdckaaQK18
import Derived.Test.YtannholebjdckaaQK19
set_option linter.unusedVariables false
section
set_option linter.unusedSimpArgs false
namespace Go.Smd
open Go.RowKit Go.Proofs
theorem Tree.ind {P : Tree → Prop} (hn : P .nil) (hb : ∀ b, P (.bool b)) (hi : ∀ n, P (.int n)) (hf : ∀ f, P (.float f)) (hs : ∀ s, P (.str s)) (hl : ∀ l, (∀ x ∈ l, P x) → P (.list l)) (hm : ∀ m, (∀ p ∈ m, P p.2) → P (.map m)) : ∀ t, P t
  | .nil => hn
  | .bool b => hb b
  | .int n => hi n
  | .float f => hf f
  | .str s => hs s
  | .list l => hl l fun x _hx => Tree.ind hn hb hi hf hs hl hm x
  | .map m => hm m fun p _hp => Tree.ind hn hb hi hf hs hl hm p.2
termination_by t => SizeOf.sizeOf t
decreasing_by
  · have := List.sizeOf_lt_of_mem _hx
    simp; omega
  · have h1 := List.sizeOf_lt_of_mem _hp
    have h2 : SizeOf.sizeOf p.2 < SizeOf.sizeOf p := by cases p; simp; omega
    simp; omega
mutual
def fromT : Tree → GV
  | .nil => .mk 0 0 0 ⟨#[]⟩ [] []
  | .bool b => .mk 1 (if b then 1 else 0) 0 ⟨#[]⟩ [] []
  | .int n => .mk 2 n 0 ⟨#[]⟩ [] []
  | .float f => .mk 3 0 f ⟨#[]⟩ [] []
  | .str s => .mk 4 0 0 s [] []
  | .list l => .mk 5 0 0 ⟨#[]⟩ [] (fromTs l)
  | .map m => mkMap (fromMs m)
def fromTs : List Tree → List GV
  | [] => []
  | x :: l => fromT x :: fromTs l
def fromMs : List (ByteArray × Tree) → List (ByteArray × GV)
  | [] => []
  | p :: m => sIns p.1 (fromT p.2) (fromMs m)
end
theorem fromTs_eq : ∀ l, fromTs l = l.map fromT
  | [] => by simp [fromTs]
  | x :: l => by simp [fromTs, fromTs_eq l]
theorem fromMs_sorted : ∀ m, Sorted (fromMs m)
  | [] => by simp [fromMs, Sorted]
  | p :: m => by simp only [fromMs]; exact sIns_sorted (fromMs_sorted m)
theorem fromMs_mem {k : ByteArray} {v : GV} : ∀ {m : List (ByteArray × Tree)}, (k, v) ∈ fromMs m → ∃ t, (k, t) ∈ m ∧ v = fromT t
  | [], h => by simp [fromMs] at h
  | p :: m, h => by
    simp only [fromMs] at h
    rcases mem_sIns h with h | h
    · cases h; exact ⟨p.2, List.mem_cons_self .., rfl⟩
    · obtain ⟨t, h1, h2⟩ := fromMs_mem h
      exact ⟨t, List.mem_cons_of_mem _ h1, h2⟩
theorem fromMs_keys (q : ByteArray) : ∀ m : List (ByteArray × Tree), q ∈ (fromMs m).map (·.1) ↔ q ∈ m.map (·.1)
  | [] => by simp [fromMs]
  | p :: m => by
    simp only [fromMs]
    have h : ∀ (k : ByteArray) (v : GV) (l : List (ByteArray × GV)), q ∈ (sIns k v l).map (·.1) ↔ q = k ∨ q ∈ l.map (·.1) := fun k v l => by
      induction l with
      | nil => simp [sIns]
      | cons y l ih =>
        simp only [sIns]
        split
        · simp only [List.map_cons, List.mem_cons, ih]
          constructor <;> rintro (h | h | h) <;> simp [h]
        · split
          · next h => simp [h]
          · simp
    rw [h, fromMs_keys q m]; simp
theorem sIns_mem_iff {k : ByteArray} {v : GV} {p : ByteArray × GV} : ∀ {m : List (ByteArray × GV)}, Sorted m → (p ∈ sIns k v m ↔ p = (k, v) ∨ (p ∈ m ∧ p.1 ≠ k))
  | [], _ => by simp [sIns]
  | q :: m, hs => by
    have hs' := hs
    simp only [Sorted, List.map_cons, List.pairwise_cons] at hs
    have hq : ∀ x ∈ m, blt q.1 x.1 = true := fun x hx => hs.1 x.1 (List.mem_map_of_mem hx)
    simp only [sIns]
    split
    · next hb =>
      rw [List.mem_cons, sIns_mem_iff hs.2, List.mem_cons]
      constructor
      · rintro (h | h | h)
        · subst h; exact .inr ⟨.inl rfl, blt_ne hb⟩
        · exact .inl h
        · exact .inr ⟨.inr h.1, h.2⟩
      · rintro (h | ⟨h | h, h2⟩)
        · exact .inr (.inl h)
        · exact .inl h
        · exact .inr (.inr ⟨h, h2⟩)
    · next hb =>
      split
      · next he =>
        rw [List.mem_cons, List.mem_cons]
        constructor
        · rintro (h | h)
          · exact .inl h
          · exact .inr ⟨.inr h, fun e => blt_ne (hq p h) (he.trans e.symm)⟩
        · rintro (h | ⟨h | h, h2⟩)
          · exact .inl h
          · subst h; exact absurd he h2
          · exact .inr h
      · next he =>
        have hk : blt k q.1 = true := by
          rcases blt_tri q.1 k with h' | h' | h'
          · exact absurd h' hb
          · exact absurd h' he
          · exact h'
        rw [List.mem_cons]
        constructor
        · rintro (h | h)
          · exact .inl h
          · refine .inr ⟨h, fun e => ?_⟩
            rcases List.mem_cons.1 h with rfl | h
            · exact he e
            · have := blt_trans hk (hq p h); rw [e, blt_irrefl] at this; cases this
        · rintro (h | ⟨h, _⟩)
          · exact .inl h
          · exact .inr h
theorem sorted_ext : ∀ {a b : List (ByteArray × GV)}, Sorted a → Sorted b → (∀ p, p ∈ a ↔ p ∈ b) → a = b
  | [], [], _, _, _ => rfl
  | [], y :: b, _, _, h => by have := (h y).2 (List.mem_cons_self ..); cases this
  | x :: a, [], _, _, h => by have := (h x).1 (List.mem_cons_self ..); cases this
  | x :: a, y :: b, ha, hb, h => by
    simp only [Sorted, List.map_cons, List.pairwise_cons] at ha hb
    have hx1 : ∀ p ∈ a, blt x.1 p.1 = true := fun p hp => ha.1 p.1 (List.mem_map_of_mem hp)
    have hy1 : ∀ p ∈ b, blt y.1 p.1 = true := fun p hp => hb.1 p.1 (List.mem_map_of_mem hp)
    have hxy : x = y := by
      rcases List.mem_cons.1 ((h x).1 (List.mem_cons_self ..)) with e | hx
      · exact e
      · rcases List.mem_cons.1 ((h y).2 (List.mem_cons_self ..)) with e | hy
        · exact e.symm
        · have h1 := hy1 x hx
          have h2 := hx1 y hy
          rw [blt_asymm h1] at h2; cases h2
    subst hxy
    rw [sorted_ext ha.2 hb.2 fun p => ?_]
    constructor
    · intro hp
      rcases List.mem_cons.1 ((h p).1 (List.mem_cons_of_mem _ hp)) with rfl | h'
      · have := hx1 p hp; rw [blt_irrefl] at this; cases this
      · exact h'
    · intro hp
      rcases List.mem_cons.1 ((h p).2 (List.mem_cons_of_mem _ hp)) with rfl | h'
      · have := hy1 p hp; rw [blt_irrefl] at this; cases this
      · exact h'
theorem sIns_twice {k : ByteArray} {a b : GV} {m : List (ByteArray × GV)} (hs : Sorted m) : sIns k a (sIns k b m) = sIns k a m := by
  refine sorted_ext (sIns_sorted (sIns_sorted hs)) (sIns_sorted hs) fun p => ?_
  rw [sIns_mem_iff (sIns_sorted hs), sIns_mem_iff hs, sIns_mem_iff hs]
  constructor
  · rintro (h | ⟨h | h, h2⟩)
    · exact .inl h
    · subst h; exact absurd rfl h2
    · exact .inr h
  · rintro (h | h)
    · exact .inl h
    · exact .inr ⟨.inr h, h.2⟩
theorem sIns_comm {k q : ByteArray} (hkq : k ≠ q) {a b : GV} {m : List (ByteArray × GV)} (hs : Sorted m) : sIns k a (sIns q b m) = sIns q b (sIns k a m) := by
  refine sorted_ext (sIns_sorted (sIns_sorted hs)) (sIns_sorted (sIns_sorted hs)) fun p => ?_
  rw [sIns_mem_iff (sIns_sorted hs), sIns_mem_iff hs, sIns_mem_iff (sIns_sorted hs), sIns_mem_iff hs]
  constructor
  · rintro (h | ⟨h | h, h2⟩)
    · exact .inr ⟨.inl h, by rw [h]; exact hkq⟩
    · exact .inl h
    · exact .inr ⟨.inr ⟨h.1, h2⟩, h.2⟩
  · rintro (h | ⟨h | h, h2⟩)
    · exact .inr ⟨.inl h, by rw [h]; exact hkq.symm⟩
    · exact .inl h
    · exact .inr ⟨.inr ⟨h.1, h2⟩, h.2⟩
theorem fromMs_ins (k : ByteArray) (t : Tree) : ∀ m : Fields, fromMs (ins k t m) = sIns k (fromT t) (fromMs m)
  | [] => by simp [ins, fromMs]
  | p :: m => by
    simp only [ins]
    split
    · next h => simp only [fromMs, h]; exact (sIns_twice (fromMs_sorted m)).symm
    · next h =>
      simp only [fromMs]
      rw [fromMs_ins k t m, sIns_comm h (fromMs_sorted m)]
theorem from_mapOf : ∀ (ks : List ByteArray) (l : List GV) (m : Fields), (∀ x ∈ l, fromT (treeOf x) = clean x) → fromMs (mapOf ks (treesOf l) m) = insAll ks (cleans l) (fromMs m)
  | [], l, m, _ => by cases l <;> simp [mapOf, treesOf, cleans, insAll]
  | k :: ks, [], m, _ => by simp [mapOf, treesOf, cleans, insAll]
  | k :: ks, x :: l, m, h => by
    simp only [treesOf, cleans, mapOf, insAll]
    rw [from_mapOf ks l _ fun y hy => h y (List.mem_cons_of_mem _ hy), fromMs_ins, h x (List.mem_cons_self ..)]
theorem from_tree (v : GV) : fromT (treeOf v) = clean v := by
  induction v using GV.ind with
  | h kind n f s keys l IH =>
  simp only [treeOf, clean]
  repeat' split
  all_goals (try simp only [fromT])
  all_goals (try rfl)
  · next h => subst h; simp
  · next h => simp [h]
  · have : fromTs (treesOf l) = cleans l := by
      rw [fromTs_eq, treesOf_eq, cleans_eq, List.map_map]
      exact List.map_congr_left fun x hx => IH x hx
    rw [this]
  · rw [from_mapOf keys l [] IH]; rfl
theorem insAll_vals : ∀ (ks : List ByteArray) (l : List GV) (m : List (ByteArray × GV)) (Q : GV → Prop), (∀ x ∈ l, Q x) → (∀ p ∈ m, Q p.2) → Sorted m → ∀ p ∈ insAll ks l m, Q p.2
  | [], l, m, Q, _, hm, _, p, hp => by cases l <;> exact hm p (by simpa [insAll] using hp)
  | k :: ks, [], m, Q, _, hm, _, p, hp => hm p (by simpa [insAll] using hp)
  | k :: ks, x :: l, m, Q, hl, hm, hs, p, hp => by
    simp only [insAll] at hp
    refine insAll_vals ks l _ Q (fun y hy => hl y (List.mem_cons_of_mem _ hy)) (fun q hq => ?_) (sIns_sorted hs) p hp
    rcases (sIns_mem_iff hs).1 hq with rfl | ⟨hq, _⟩
    · exact hl x (List.mem_cons_self ..)
    · exact hm q hq
end Go.Smd
end
section
set_option linter.unusedSimpArgs false
set_option maxRecDepth 100000
set_option maxHeartbeats 8000000
namespace Go.Smd
open Go.RowKit Go.Proofs
def asF (k n : Int) (f : Nat) : Nat := if k = 2 then toFl n else f
abbrev gvX (k n : Int) (f : Nat) (s : ByteArray) (ks : List ByteArray) (l : List GV) : Av := .agg [.d (dI k), .d (dI n), .d (dF f), .d (dS s), .d (dStrs ks), .d (dGVs l)]
theorem gvA_x (k n : Int) (f : Nat) (s : ByteArray) (ks : List ByteArray) (l : List GV) : gvA (.mk k n f s ks l) = gvX k n f s ks l := by simp only [gvA, gvD_mk, cls_cons, cls_nil]
theorem asFloat_x (k n : Int) (f : Nat) (s : ByteArray) (ks : List ByteArray) (l : List GV) : ACalls Try.prog 53 [gvX k n f s ks l] (fun r => r = aV (.float .f64 (asF k n f))) := by
  refine acalls_ex [] Try.func53 (by kernel_rfl) rfl Try.ntmps53 Try.results53 (Nat.le_of_ble_eq_true (by kernel_rfl)) ?_; intro hok w0 S0
  clear hok
  (repeat' (first
                                                            | (with_reducible refine br_d (fun _ => ?_) (fun _ => ?_))
                                                            | (with_reducible refine br_i (fun _ => ?_) (fun _ => ?_))
                                                            | ((with_reducible apply nd_next); (case hx => simp -dsimp [conv_a]; first | done | with_reducible rfl); (case hid => simp -dsimp [conv_a]; first | done | with_reducible rfl | exact ⟨rfl, rfl, rfl⟩ | exact ⟨rfl, rfl⟩); (case' h1 => intro _ _ _); (case' h0 => intro _))
                                                            | ((with_reducible apply nd_entry); (case hx => simp -dsimp [conv_a]; first | done | with_reducible rfl); (case hid => simp -dsimp [conv_a]; first | done | with_reducible rfl | exact ⟨rfl, rfl, rfl⟩ | exact ⟨rfl, rfl⟩))
                                                            | ((with_reducible apply nd_range); (case hx => simp -dsimp [conv_a]; with_reducible rfl); (case hT => simp -dsimp [conv_a]); (case hnd => assumption); (case hz => simp -dsimp [conv_a]))
                                                            | (with_reducible refine dn_i follows_any (by kernel_rfl) ?_)
                                                            | (with_reducible exact done_eq rfl)
                                                            | (simp -dsimp [conv_a]))); (all_goals try with_reducible refine done_eq ?_)
  all_goals simp_all [asF]
end Go.Smd
end
section
set_option linter.unusedSimpArgs false
set_option maxRecDepth 100000
set_option maxHeartbeats 8000000
namespace Go.Smd
open Go.RowKit Go.Proofs
structure EV where
  k : Int
  s : ByteArray
  keys : List ByteArray
  l : List GV
  v : GV
  n : Int
def evD (e : EV) : List D := [dI e.k, dS e.s, dStrs e.keys, dGVs e.l] ++ gvD e.v ++ [dI e.n]
abbrev evA (e : EV) : Av := .agg (cls (evD e))
@[simp] theorem evD_length (e : EV) : (evD e).length = 11 := by simp [evD]
@[simp] theorem evD_take (e : EV) : (evD e).take 11 = evD e := List.take_of_length_le (by simp)
@[simp] theorem clsE_take (e : EV) : (cls (evD e)).take 11 = cls (evD e) := List.take_of_length_le (by simp)
abbrev evX (k : Int) (s : ByteArray) (keys : List ByteArray) (l : List GV) (a b : Int) (c : Nat) (d : ByteArray) (e : List ByteArray) (f : List GV) (n : Int) : Av :=
  .agg [.d (dI k), .d (dS s), .d (dStrs keys), .d (dGVs l), .d (dI a), .d (dI b), .d (dF c), .d (dS d), .d (dStrs e), .d (dGVs f), .d (dI n)]
theorem evA_x (k : Int) (s : ByteArray) (keys : List ByteArray) (l : List GV) (a b : Int) (c : Nat) (d : ByteArray) (e : List ByteArray) (f : List GV) (n : Int) : evA ⟨k, s, keys, l, .mk a b c d e f, n⟩ = evX k s keys l a b c d e f n := by
  simp only [evD, evA, gvD_mk, List.cons_append, List.nil_append, cls_cons, cls_nil]
@[simp] theorem coL_ev (e : EV) : coL [none, none, some 9, some 29, none, none, none, none, some 9, some 29, none] (cls (evD e)) = cls (evD e) := by
  obtain ⟨k, s, keys, l, ⟨a, b, c, d, p, f⟩, n⟩ := e
  simp only [evD, gvD_mk]; rfl
structure EVk (e : EV) : Prop where
  hk : -9223372036854775808 ≤ e.k ∧ e.k ≤ 9223372036854775807
  hkeys : e.keys.length * 16 ≤ 140737488351232
  hl : e.l.length * 88 ≤ 140737488351232
  hitem : ∀ x ∈ e.l, okA Try.prog (gvA x)
  hv : okA Try.prog (gvA e.v)
abbrev Fds := List (ByteArray × Tree)
def fdRow (p : ByteArray × Tree) : List D := [dS p.1, dV p.2]
abbrev dFds (l : Fds) : D := .sl 68 (l.map fdRow)
def zipF (ks : List ByteArray) (l : List GV) : Fds := ks.zip (l.map treeOf)
theorem toKeys_x (k : Int) (s : ByteArray) (keys : List ByteArray) (l : List GV) (a b : Int) (c : Nat) (d : ByteArray) (e : List ByteArray) (f : List GV) (n : Int) (hk : keys.length * 16 ≤ 140737488351232) (hl : l.length * 88 ≤ 140737488351232) :
    ACalls Try.prog 31 [evX k s keys l a b c d e f n] (fun r => r = .c (.d (dFds (zipF keys l)))) := by
  refine acalls_ex [] Try.func31 (by kernel_rfl) rfl Try.ntmps31 Try.results31 (Nat.le_of_ble_eq_true (by kernel_rfl)) ?_; intro hok w0 S0
  clear hok
  have b1 : keys.length ≤ 9223372036854775807 := by omega
  have b2 : l.length ≤ 9223372036854775807 := by omega
  (repeat' (first
                                                            | (with_reducible refine br_d (fun _ => ?_) (fun _ => ?_))
                                                            | (with_reducible refine br_i (fun _ => ?_) (fun _ => ?_))
                                                            | ((with_reducible apply nd_next); (case hx => simp -dsimp [b1, b2]; first | done | with_reducible rfl); (case hid => simp -dsimp [b1, b2]; first | done | with_reducible rfl | exact ⟨rfl, rfl, rfl⟩ | exact ⟨rfl, rfl⟩); (case' h1 => intro _ _ _); (case' h0 => intro _))
                                                            | ((with_reducible apply nd_entry); (case hx => simp -dsimp [b1, b2]; first | done | with_reducible rfl); (case hid => simp -dsimp [b1, b2]; first | done | with_reducible rfl | exact ⟨rfl, rfl, rfl⟩ | exact ⟨rfl, rfl⟩))
                                                            | ((with_reducible apply nd_range); (case hx => simp -dsimp [b1, b2]; with_reducible rfl); (case hT => simp -dsimp [b1, b2]); (case hnd => assumption); (case hz => simp -dsimp [b1, b2]))
                                                            | (with_reducible refine dn_i follows_any (by kernel_rfl) ?_)
                                                            | (with_reducible exact done_eq rfl)
                                                            | (simp -dsimp [b1, b2]))); (all_goals try with_reducible refine done_eq ?_)
  refine ex_loop (fun i : Nat => ⟨[(1, .c (.own 1 0)), (3, .c (.gs 6 ((zipF keys l).take i).length)), (8, .c (.d (dStrs keys))), (9, aV (.int .i64 keys.length)), (10, aV (.int .i64 i))], [(6, .arr ((zipF keys l).take i).length 68 (((zipF keys l).take i).map fdRow)),
    (1, .cells [.d (dI k), .d (dS s), .d (dStrs keys), .d (dGVs l), .d (dI a), .d (dI b), .d (dF c), .d (dS d), .d (dStrs e), .d (dGVs f), .d (dI n)] 31)]⟩) (fun i => i ≤ keys.length) (fun i => keys.length - i) 0 ?_ (Nat.zero_le _) ?_
  · exact Weak.same (by simp -dsimp [List.take_zero, List.length_nil, List.map_nil]) (by simp -dsimp [List.take_zero, List.length_nil, List.map_nil]) (by first | rfl | (simp [closedSt, Av.ids, Ow.ids, Cl.ids, Go.Smd.keys]; done))
  · rintro i hi K hK
    by_cases hlt : i < keys.length
    · have hw : IntKind.wrap .i64 ((i : Int) + 1) = ((i + 1 : Nat) : Int) := by rw [wrap_i64] <;> omega
      by_cases hl2 : i < l.length
      · have h1 : ((zipF keys l).take (i + 1)) = (zipF keys l).take i ++ [(keys[i], treeOf l[i])] := by
          rw [List.take_succ_eq_append_getElem (by simp [zipF]; omega)]
          simp [zipF]
        have h2 : ((zipF keys l).take i).length = i := by simp [zipF]; omega
        have hb : (min i (zipF keys l).length + 1) * 32 ≤ 140737488351232 := by omega
        rw [h2]
        (repeat' (first
                                                            | (with_reducible refine br_d (fun _ => ?_) (fun _ => ?_))
                                                            | (with_reducible refine br_i (fun _ => ?_) (fun _ => ?_))
                                                            | (with_reducible refine nd_v (toValue_a _) (by first | rfl | (simp -dsimp [b1, b2, hlt, hl2, hw, h2, hb, toDs]; done)) ?_)
                                                            | (with_reducible refine nw_v (toValue_a _) rfl (by first | rfl | (simp -dsimp [b1, b2, hlt, hl2, hw, h2, hb, toDs]; done)) (by first | rfl | (simp -dsimp [b1, b2, hlt, hl2, hw, h2, hb, toDs]; done)) ?_)
                                                            | ((with_reducible apply nd_next); (case hx => simp -dsimp [b1, b2, hlt, hl2, hw, h2, hb, toDs]; first | done | with_reducible rfl); (case hid => simp -dsimp [b1, b2, hlt, hl2, hw, h2, hb, toDs]; first | done | with_reducible rfl | exact ⟨rfl, rfl, rfl⟩ | exact ⟨rfl, rfl⟩); (case' h1 => intro _ _ _); (case' h0 => intro _))
                                                            | ((with_reducible apply nd_entry); (case hx => simp -dsimp [b1, b2, hlt, hl2, hw, h2, hb, toDs]; first | done | with_reducible rfl); (case hid => simp -dsimp [b1, b2, hlt, hl2, hw, h2, hb, toDs]; first | done | with_reducible rfl | exact ⟨rfl, rfl, rfl⟩ | exact ⟨rfl, rfl⟩))
                                                            | ((with_reducible apply nd_range); (case hx => simp -dsimp [b1, b2, hlt, hl2, hw, h2, hb, toDs]; with_reducible rfl); (case hT => simp -dsimp [b1, b2, hlt, hl2, hw, h2, hb, toDs]); (case hnd => assumption); (case hz => simp -dsimp [b1, b2, hlt, hl2, hw, h2, hb, toDs]))
                                                            | (with_reducible refine dn_i follows_any (by kernel_rfl) ?_)
                                                            | (with_reducible exact done_eq rfl)
                                                            | (simp -dsimp [b1, b2, hlt, hl2, hw, h2, hb, toDs]))); (all_goals try with_reducible refine done_eq ?_)
        refine hK _ (i + 1) ?_ (by omega) (by omega)
        rw [h1]
        exact Weak.same (by simp -dsimp [h2, List.map_append, List.map_take, fdRow]) (by simp -dsimp [h2, List.map_append, List.map_take, fdRow]) (by first | rfl | (simp [closedSt, Av.ids, Ow.ids, Cl.ids, Go.Smd.keys]; done))
      · have h1 : ((zipF keys l).take (i + 1)) = (zipF keys l).take i := by
          rw [List.take_of_length_le (by simp [zipF]; omega), List.take_of_length_le (by simp [zipF]; omega)]
        (repeat' (first
                                                            | (with_reducible refine br_d (fun _ => ?_) (fun _ => ?_))
                                                            | (with_reducible refine br_i (fun _ => ?_) (fun _ => ?_))
                                                            | ((with_reducible apply nd_next); (case hx => simp -dsimp [b1, b2, hlt, hl2, hw]; first | done | with_reducible rfl); (case hid => simp -dsimp [b1, b2, hlt, hl2, hw]; first | done | with_reducible rfl | exact ⟨rfl, rfl, rfl⟩ | exact ⟨rfl, rfl⟩); (case' h1 => intro _ _ _); (case' h0 => intro _))
                                                            | ((with_reducible apply nd_entry); (case hx => simp -dsimp [b1, b2, hlt, hl2, hw]; first | done | with_reducible rfl); (case hid => simp -dsimp [b1, b2, hlt, hl2, hw]; first | done | with_reducible rfl | exact ⟨rfl, rfl, rfl⟩ | exact ⟨rfl, rfl⟩))
                                                            | ((with_reducible apply nd_range); (case hx => simp -dsimp [b1, b2, hlt, hl2, hw]; with_reducible rfl); (case hT => simp -dsimp [b1, b2, hlt, hl2, hw]); (case hnd => assumption); (case hz => simp -dsimp [b1, b2, hlt, hl2, hw]))
                                                            | (with_reducible refine dn_i follows_any (by kernel_rfl) ?_)
                                                            | (with_reducible exact done_eq rfl)
                                                            | (simp -dsimp [b1, b2, hlt, hl2, hw]))); (all_goals try with_reducible refine done_eq ?_)
        refine hK _ (i + 1) ?_ (by omega) (by omega)
        rw [h1]
        exact Weak.same (by simp -dsimp) (by simp -dsimp) (by first | rfl | (simp [closedSt, Av.ids, Ow.ids, Cl.ids, Go.Smd.keys]; done))
    · have h1 : (zipF keys l).take i = zipF keys l := List.take_of_length_le (by simp [zipF]; omega)
      (repeat' (first
                                                            | (with_reducible refine br_d (fun _ => ?_) (fun _ => ?_))
                                                            | (with_reducible refine br_i (fun _ => ?_) (fun _ => ?_))
                                                            | ((with_reducible apply nd_next); (case hx => simp -dsimp [hlt, h1]; first | done | with_reducible rfl); (case hid => simp -dsimp [hlt, h1]; first | done | with_reducible rfl | exact ⟨rfl, rfl, rfl⟩ | exact ⟨rfl, rfl⟩); (case' h1 => intro _ _ _); (case' h0 => intro _))
                                                            | ((with_reducible apply nd_entry); (case hx => simp -dsimp [hlt, h1]; first | done | with_reducible rfl); (case hid => simp -dsimp [hlt, h1]; first | done | with_reducible rfl | exact ⟨rfl, rfl, rfl⟩ | exact ⟨rfl, rfl⟩))
                                                            | ((with_reducible apply nd_range); (case hx => simp -dsimp [hlt, h1]; with_reducible rfl); (case hT => simp -dsimp [hlt, h1]); (case hnd => assumption); (case hz => simp -dsimp [hlt, h1]))
                                                            | (with_reducible refine dn_i follows_any (by kernel_rfl) ?_)
                                                            | (with_reducible exact done_eq rfl)
                                                            | (simp -dsimp [hlt, h1]))); (all_goals try with_reducible refine done_eq ?_)
inductive LE where
  | name (s : ByteArray)
  | key (l : Fds)
  | val (t : Tree)
  | idx (n : Int)
def eqFds : Fds → Fds → Bool
  | p :: l, q :: m => decide (p.1 = q.1) && eqV p.2 q.2 && eqFds l m
  | [], [] => true
  | _, _ => false
theorem eqFds_len : ∀ {l m : Fds}, l.length ≠ m.length → eqFds l m = false
  | [], [], h => absurd rfl h
  | [], _ :: _, _ => rfl
  | _ :: _, [], _ => rfl
  | x :: xs, y :: ys, h => by simp only [eqFds]; rw [eqFds_len (by simpa using h)]; simp
theorem fieldsEquals_a (l m : Fds) (hl : ∀ p ∈ l, Fits p.2) (hm : ∀ p ∈ m, Fits p.2) :
    ACalls Try.prog 33 [.c (.d (dFds l)), .c (.d (dFds m))] (fun r => r = aV (.bool (eqFds l m))) := by
  refine acalls_ex [(6, ([], [(0, []), (1, []), (2, []), (3, []), (4, []), (5, []), (6, []), (7, []), (8, []), (9, []), (10, [])])), (8, ([10], [(0, []), (1, []), (2, []), (3, []), (4, []), (5, []), (6, []), (7, []), (8, []), (9, []), (10, []), (11, [])]))] Try.func33 (by kernel_rfl) rfl Try.ntmps33 Try.results33 (Nat.le_of_ble_eq_true (by kernel_rfl)) ?_; intro hok w0 S0
  have b1 : l.length * 32 ≤ 140737488351232 := by have := (okD_sl (hok (.c (.d (dFds l))) (by simp))).1; simpa using this
  have b2 : m.length * 32 ≤ 140737488351232 := by have := (okD_sl (hok (.c (.d (dFds m))) (by simp))).1; simpa using this
  clear hok
  have b3 : l.length ≤ 9223372036854775807 := by omega
  have b4 : m.length ≤ 9223372036854775807 := by omega
  (repeat' (first
                                                            | (with_reducible refine br_d (fun _ => ?_) (fun _ => ?_))
                                                            | (with_reducible refine br_i (fun _ => ?_) (fun _ => ?_))
                                                            | ((with_reducible apply nd_next); (case hx => simp -dsimp [b3, b4]; first | done | with_reducible rfl); (case hid => simp -dsimp [b3, b4]; first | done | with_reducible rfl | exact ⟨rfl, rfl, rfl⟩ | exact ⟨rfl, rfl⟩); (case' h1 => intro _ _ _); (case' h0 => intro _))
                                                            | ((with_reducible apply nd_entry); (case hx => simp -dsimp [b3, b4]; first | done | with_reducible rfl); (case hid => simp -dsimp [b3, b4]; first | done | with_reducible rfl | exact ⟨rfl, rfl, rfl⟩ | exact ⟨rfl, rfl⟩))
                                                            | ((with_reducible apply nd_range); (case hx => simp -dsimp [b3, b4]; with_reducible rfl); (case hT => simp -dsimp [b3, b4]); (case hnd => assumption); (case hz => simp -dsimp [b3, b4]))
                                                            | (with_reducible refine dn_i follows_any (by kernel_rfl) ?_)
                                                            | (with_reducible exact done_eq rfl)
                                                            | (simp -dsimp [b3, b4]))); (all_goals try with_reducible refine done_eq ?_)
  · rename_i hn
    rw [eqFds_len (l := l) (m := m) (by intro e; rw [e] at hn; simp at hn)]
  · rename_i hn
    have hlen : l.length = m.length := by simp at hn; omega
    refine ex_loop (fun i : Nat => ⟨[(0, .c (.d (dFds l))), (1, .c (.d (dFds m))), (12, aV (.int .i64 l.length)), (13, aV (.int .i64 i))], []⟩) (fun i => i ≤ l.length ∧ eqFds l m = eqFds (l.drop i) (m.drop i)) (fun i => l.length - i) 0 ?_ ⟨Nat.zero_le _, rfl⟩ ?_
    · exact Weak.same (by simp -dsimp) (by simp -dsimp) (by first | rfl | (simp [closedSt, Av.ids, Ow.ids, Cl.ids, Go.Smd.keys]; done))
    · rintro i ⟨hi, heq⟩ K hK
      by_cases hlt : i < l.length
      · have hlt' : i < m.length := by omega
        have hw : IntKind.wrap .i64 ((i : Int) + 1) = ((i + 1 : Nat) : Int) := by rw [wrap_i64] <;> omega
        have hcons : eqFds (l.drop i) (m.drop i) = (decide (l[i].1 = m[i].1) && eqV l[i].2 m[i].2 && eqFds (l.drop (i + 1)) (m.drop (i + 1))) := by rw [List.drop_eq_getElem_cons hlt, List.drop_eq_getElem_cons hlt']; rfl
        (repeat' (first
                                                            | (with_reducible refine br_d (fun _ => ?_) (fun _ => ?_))
                                                            | (with_reducible refine br_i (fun _ => ?_) (fun _ => ?_))
                                                            | (with_reducible refine nd_v (vEquals_a _ _ (hl _ (List.getElem_mem hlt)) (hm _ (List.getElem_mem hlt'))) (by first | rfl | (simp -dsimp [b3, b4, hlt, hlt', hw, fdRow]; done)) ?_)
                                                            | (with_reducible refine nw_v (vEquals_a _ _ (hl _ (List.getElem_mem hlt)) (hm _ (List.getElem_mem hlt'))) rfl (by first | rfl | (simp -dsimp [b3, b4, hlt, hlt', hw, fdRow]; done)) (by first | rfl | (simp -dsimp [b3, b4, hlt, hlt', hw, fdRow]; done)) ?_)
                                                            | ((with_reducible apply nd_next); (case hx => simp -dsimp [b3, b4, hlt, hlt', hw, fdRow]; first | done | with_reducible rfl); (case hid => simp -dsimp [b3, b4, hlt, hlt', hw, fdRow]; first | done | with_reducible rfl | exact ⟨rfl, rfl, rfl⟩ | exact ⟨rfl, rfl⟩); (case' h1 => intro _ _ _); (case' h0 => intro _))
                                                            | ((with_reducible apply nd_entry); (case hx => simp -dsimp [b3, b4, hlt, hlt', hw, fdRow]; first | done | with_reducible rfl); (case hid => simp -dsimp [b3, b4, hlt, hlt', hw, fdRow]; first | done | with_reducible rfl | exact ⟨rfl, rfl, rfl⟩ | exact ⟨rfl, rfl⟩))
                                                            | ((with_reducible apply nd_range); (case hx => simp -dsimp [b3, b4, hlt, hlt', hw, fdRow]; with_reducible rfl); (case hT => simp -dsimp [b3, b4, hlt, hlt', hw, fdRow]); (case hnd => assumption); (case hz => simp -dsimp [b3, b4, hlt, hlt', hw, fdRow]))
                                                            | (with_reducible refine dn_i follows_any (by kernel_rfl) ?_)
                                                            | (with_reducible exact done_eq rfl)
                                                            | (simp -dsimp [b3, b4, hlt, hlt', hw, fdRow]))); (all_goals try with_reducible refine done_eq ?_)
        · rename_i hn
          have hn : decide (l[i].1 = m[i].1) = false := by simpa using hn
          rw [heq, hcons, hn]; rfl
        · rename_i h1 hn
          have h1 : decide (l[i].1 = m[i].1) = true := by simpa using h1
          have hn : eqV l[i].2 m[i].2 = false := by simpa using hn
          rw [heq, hcons, h1, hn]; rfl
        · rename_i h1 hn
          have h1 : decide (l[i].1 = m[i].1) = true := by simpa using h1
          have hn : eqV l[i].2 m[i].2 = true := by simpa using hn
          refine hK _ (i + 1) ?_ ⟨by omega, by rw [heq, hcons, h1, hn]; rfl⟩ (by omega)
          exact Weak.same (by simp -dsimp) (by simp -dsimp) (by first | rfl | (simp [closedSt, Av.ids, Ow.ids, Cl.ids, Go.Smd.keys]; done))
      · (repeat' (first
                                                            | (with_reducible refine br_d (fun _ => ?_) (fun _ => ?_))
                                                            | (with_reducible refine br_i (fun _ => ?_) (fun _ => ?_))
                                                            | ((with_reducible apply nd_next); (case hx => simp -dsimp [b3, hlt]; first | done | with_reducible rfl); (case hid => simp -dsimp [b3, hlt]; first | done | with_reducible rfl | exact ⟨rfl, rfl, rfl⟩ | exact ⟨rfl, rfl⟩); (case' h1 => intro _ _ _); (case' h0 => intro _))
                                                            | ((with_reducible apply nd_entry); (case hx => simp -dsimp [b3, hlt]; first | done | with_reducible rfl); (case hid => simp -dsimp [b3, hlt]; first | done | with_reducible rfl | exact ⟨rfl, rfl, rfl⟩ | exact ⟨rfl, rfl⟩))
                                                            | ((with_reducible apply nd_range); (case hx => simp -dsimp [b3, hlt]; with_reducible rfl); (case hT => simp -dsimp [b3, hlt]); (case hnd => assumption); (case hz => simp -dsimp [b3, hlt]))
                                                            | (with_reducible refine dn_i follows_any (by kernel_rfl) ?_)
                                                            | (with_reducible exact done_eq rfl)
                                                            | (simp -dsimp [b3, hlt]))); (all_goals try with_reducible refine done_eq ?_)
        rw [heq, List.drop_eq_nil_of_le (by omega), List.drop_eq_nil_of_le (by omega)]; rfl
@[simp] theorem isStr_s : Try.prog.isStr 9 = true := by kernel_rfl
theorem conv_u8 (b : UInt8) : valPure Try.prog (convert 5 2 (.int .u8 b.toNat)) = some (.c (.d (.v (.int .i64 b.toNat)))) := by
  have hb := b.toNat_lt
  have h : evalPure Try.prog (convert 5 2 (.int .u8 b.toNat)) = some (.int .i64 b.toNat) := by
    have hw : IntKind.wrap .i64 (b.toNat : Int) = b.toNat := by rw [wrap_i64] <;> omega
    simp [convert, underlying, program, bind, Sem.bind, evalPure, pure, Conv.intToInt, hw]
  unfold valPure; rw [h]; simp [okVb, okInt]; omega
theorem zzFits2_x (keys : List ByteArray) (hk : keys.length * 16 ≤ 140737488351232) (hkey : ∀ k ∈ keys, k.size ≤ 140737488351232) : ACalls Try.prog 27 [.c (.d (dStrs keys))] (fun r => ∃ b, r = aV (.bool b)) := by
  refine acalls_ex [] Try.func27 (by kernel_rfl) rfl Try.ntmps27 Try.results27 (Nat.le_of_ble_eq_true (by kernel_rfl)) ?_; intro hok w0 S0
  clear hok
  have b1 : keys.length ≤ 9223372036854775807 := by omega
  (repeat' (first
                                                            | (with_reducible refine br_d (fun _ => ?_) (fun _ => ?_))
                                                            | (with_reducible refine br_i (fun _ => ?_) (fun _ => ?_))
                                                            | ((with_reducible apply nd_next); (case hx => simp -dsimp [b1]; first | done | with_reducible rfl); (case hid => simp -dsimp [b1]; first | done | with_reducible rfl | exact ⟨rfl, rfl, rfl⟩ | exact ⟨rfl, rfl⟩); (case' h1 => intro _ _ _); (case' h0 => intro _))
                                                            | ((with_reducible apply nd_entry); (case hx => simp -dsimp [b1]; first | done | with_reducible rfl); (case hid => simp -dsimp [b1]; first | done | with_reducible rfl | exact ⟨rfl, rfl, rfl⟩ | exact ⟨rfl, rfl⟩))
                                                            | ((with_reducible apply nd_range); (case hx => simp -dsimp [b1]; with_reducible rfl); (case hT => simp -dsimp [b1]); (case hnd => assumption); (case hz => simp -dsimp [b1]))
                                                            | (with_reducible refine dn_i follows_any (by kernel_rfl) ?_)
                                                            | (with_reducible exact done_eq rfl)
                                                            | (simp -dsimp [b1]))); (all_goals try with_reducible refine done_eq ?_)
  · exact ⟨_, rfl⟩
  refine ex_loop (fun i : Nat => ⟨[(8, .c (.d (dStrs keys))), (9, aI keys.length), (10, aI i)], []⟩) (fun i => i ≤ keys.length) (fun i => keys.length - i) 0 ?_ (Nat.zero_le _) ?_
  · exact Weak.same (by simp -dsimp) (by simp -dsimp) (by first | rfl | (simp [closedSt, Av.ids, Ow.ids, Cl.ids, Go.Smd.keys]; done))
  · rintro i hi K hK
    by_cases hlt : i < keys.length
    · have hw : IntKind.wrap .i64 ((i : Int) + 1) = ((i + 1 : Nat) : Int) := by rw [wrap_i64] <;> omega
      (repeat' (first
                                                            | (with_reducible refine br_d (fun _ => ?_) (fun _ => ?_))
                                                            | (with_reducible refine br_i (fun _ => ?_) (fun _ => ?_))
                                                            | ((with_reducible apply nd_next); (case hx => simp -dsimp [b1, hlt, hw, rowS]; first | done | with_reducible rfl); (case hid => simp -dsimp [b1, hlt, hw, rowS]; first | done | with_reducible rfl | exact ⟨rfl, rfl, rfl⟩ | exact ⟨rfl, rfl⟩); (case' h1 => intro _ _ _); (case' h0 => intro _))
                                                            | ((with_reducible apply nd_entry); (case hx => simp -dsimp [b1, hlt, hw, rowS]; first | done | with_reducible rfl); (case hid => simp -dsimp [b1, hlt, hw, rowS]; first | done | with_reducible rfl | exact ⟨rfl, rfl, rfl⟩ | exact ⟨rfl, rfl⟩))
                                                            | ((with_reducible apply nd_range); (case hx => simp -dsimp [b1, hlt, hw, rowS]; with_reducible rfl); (case hT => simp -dsimp [b1, hlt, hw, rowS]); (case hnd => assumption); (case hz => simp -dsimp [b1, hlt, hw, rowS]))
                                                            | (with_reducible refine dn_i follows_any (by kernel_rfl) ?_)
                                                            | (with_reducible exact done_eq rfl)
                                                            | (simp -dsimp [b1, hlt, hw, rowS]))); (all_goals try with_reducible refine done_eq ?_)
      · exact ⟨_, rfl⟩
      · refine hK _ (i + 1) ?_ (by omega) (by omega)
        exact Weak.same (by simp -dsimp) (by simp -dsimp) (by first | rfl | (simp [closedSt, Av.ids, Ow.ids, Cl.ids, Go.Smd.keys]; done))
    · (repeat' (first
                                                            | (with_reducible refine br_d (fun _ => ?_) (fun _ => ?_))
                                                            | (with_reducible refine br_i (fun _ => ?_) (fun _ => ?_))
                                                            | ((with_reducible apply nd_next); (case hx => simp -dsimp [hlt]; first | done | with_reducible rfl); (case hid => simp -dsimp [hlt]; first | done | with_reducible rfl | exact ⟨rfl, rfl, rfl⟩ | exact ⟨rfl, rfl⟩); (case' h1 => intro _ _ _); (case' h0 => intro _))
                                                            | ((with_reducible apply nd_entry); (case hx => simp -dsimp [hlt]; first | done | with_reducible rfl); (case hid => simp -dsimp [hlt]; first | done | with_reducible rfl | exact ⟨rfl, rfl, rfl⟩ | exact ⟨rfl, rfl⟩))
                                                            | ((with_reducible apply nd_range); (case hx => simp -dsimp [hlt]; with_reducible rfl); (case hT => simp -dsimp [hlt]); (case hnd => assumption); (case hz => simp -dsimp [hlt]))
                                                            | (with_reducible refine dn_i follows_any (by kernel_rfl) ?_)
                                                            | (with_reducible exact done_eq rfl)
                                                            | (simp -dsimp [hlt]))); (all_goals try with_reducible refine done_eq ?_)
      exact ⟨_, rfl⟩
theorem zzFits13_x (k : Int) (s : ByteArray) (keys : List ByteArray) (l : List GV) (a b : Int) (c : Nat) (d : ByteArray) (e : List ByteArray) (f : List GV) (n : Int) (hk : keys.length * 16 ≤ 140737488351232) (hkey : ∀ k ∈ keys, k.size ≤ 140737488351232) (hl : l.length * 88 ≤ 140737488351232) :
    ACalls Try.prog 10 [evX k s keys l a b c d e f n] (fun r => ∃ b, r = aV (.bool b)) := by
  refine acalls_ex [] Try.func10 (by kernel_rfl) rfl Try.ntmps10 Try.results10 (Nat.le_of_ble_eq_true (by kernel_rfl)) ?_; intro hok w0 S0
  clear hok
  have b2 : l.length ≤ 9223372036854775807 := by omega
  (repeat' (first
                                                            | (with_reducible refine br_d (fun _ => ?_) (fun _ => ?_))
                                                            | (with_reducible refine br_i (fun _ => ?_) (fun _ => ?_))
                                                            | ((with_reducible refine nd_c (zzFits2_x _ hk hkey) (by first | rfl | (simp -dsimp [b2]; done)) ?_); rintro _ ⟨x1, rfl⟩ _)
                                                            | ((with_reducible refine nw_c (zzFits2_x _ hk hkey) rfl (by first | rfl | (simp -dsimp [b2]; done)) (by first | rfl | (simp -dsimp [b2]; done)) ?_); rintro _ ⟨x1, rfl⟩ _)
                                                            | ((with_reducible apply nd_next); (case hx => simp -dsimp [b2]; first | done | with_reducible rfl); (case hid => simp -dsimp [b2]; first | done | with_reducible rfl | exact ⟨rfl, rfl, rfl⟩ | exact ⟨rfl, rfl⟩); (case' h1 => intro _ _ _); (case' h0 => intro _))
                                                            | ((with_reducible apply nd_entry); (case hx => simp -dsimp [b2]; first | done | with_reducible rfl); (case hid => simp -dsimp [b2]; first | done | with_reducible rfl | exact ⟨rfl, rfl, rfl⟩ | exact ⟨rfl, rfl⟩))
                                                            | ((with_reducible apply nd_range); (case hx => simp -dsimp [b2]; with_reducible rfl); (case hT => simp -dsimp [b2]); (case hnd => assumption); (case hz => simp -dsimp [b2]))
                                                            | (with_reducible refine dn_i follows_any (by kernel_rfl) ?_)
                                                            | (with_reducible exact done_eq rfl)
                                                            | (simp -dsimp [b2]))); (all_goals try with_reducible refine done_eq ?_)
  all_goals exact ⟨_, rfl⟩
theorem zipF_eq (keys : List ByteArray) (l : List GV) : zipF keys l = (keys.zip l).map fun p => (p.1, treeOf p.2) := by
  unfold zipF
  rw [List.zip_map_right]
  rfl
structure FitsE (e : EV) : Prop where
  items : ∀ x ∈ e.l, Fits (treeOf x)
  val : Fits (treeOf e.v)
theorem FitsE.zip {e : EV} (h : FitsE e) : ∀ p ∈ e.keys.zip e.l, Fits (treeOf p.2) := fun p hp => h.items _ (List.of_mem_zip hp).2
theorem ev_ok {e : EV} (h : okA Try.prog (evA e)) : e.keys.length * 16 ≤ 140737488351232 ∧ (∀ k ∈ e.keys, k.size ≤ 140737488351232) ∧ e.l.length * 88 ≤ 140737488351232 ∧ FitsE e := by
  have h2 : ∀ d ∈ evD e, okD Try.prog d := fun d hd => okA_agg h (.d d) (List.mem_map.2 ⟨d, hd, rfl⟩) d rfl
  have a1 := strs_ok (h2 (dStrs e.keys) (by simp [evD]))
  have a2 := gvs_ok (h2 (dGVs e.l) (by simp [evD]))
  refine ⟨a1.1, a1.2, a2.1, fun x hx => gv_fits (a2.2 x hx), gv_fits ?_⟩
  obtain ⟨w, S, v, us, rfl, ha⟩ := h
  have hv := ((cls_all2.1 ha).drop 4).take 6
  have e1 : ((evD e).drop 4).take 6 = gvD e.v := by
    show (gvD e.v ++ [dI e.n]).take 6 = _
    rw [List.take_append_of_le_length (by simp), gvD_take]
  rw [e1] at hv
  exact okA_of (fun d hd => h2 d (by simp [evD, hd])) w S ⟨_, hv⟩
end Go.Smd
end
section
set_option linter.unusedSimpArgs false
set_option maxRecDepth 100000
set_option maxHeartbeats 8000000
namespace Go.Smd
open Go.RowKit Go.Proofs
theorem orderlyValues_v (l : List GV) (hl : l.length * 88 ≤ 140737488351232) : ACalls Try.prog 6 [.c (.d (dGVs l))] (fun r => r = aV (.bool (l.all orderly))) := by
  refine acalls_ex [] Try.func6 (by kernel_rfl) rfl Try.ntmps6 Try.results6 (Nat.le_of_ble_eq_true (by kernel_rfl)) ?_; intro hok w0 S0
  clear hok
  have b1 : l.length ≤ 9223372036854775807 := by omega
  (repeat' (first
                                                            | (with_reducible refine br_d (fun _ => ?_) (fun _ => ?_))
                                                            | (with_reducible refine br_i (fun _ => ?_) (fun _ => ?_))
                                                            | ((with_reducible apply nd_next); (case hx => simp -dsimp [b1]; first | done | with_reducible rfl); (case hid => simp -dsimp [b1]; first | done | with_reducible rfl | exact ⟨rfl, rfl, rfl⟩ | exact ⟨rfl, rfl⟩); (case' h1 => intro _ _ _); (case' h0 => intro _))
                                                            | ((with_reducible apply nd_entry); (case hx => simp -dsimp [b1]; first | done | with_reducible rfl); (case hid => simp -dsimp [b1]; first | done | with_reducible rfl | exact ⟨rfl, rfl, rfl⟩ | exact ⟨rfl, rfl⟩))
                                                            | ((with_reducible apply nd_range); (case hx => simp -dsimp [b1]; with_reducible rfl); (case hT => simp -dsimp [b1]); (case hnd => assumption); (case hz => simp -dsimp [b1]))
                                                            | (with_reducible refine dn_i follows_any (by kernel_rfl) ?_)
                                                            | (with_reducible exact done_eq rfl)
                                                            | (simp -dsimp [b1]))); (all_goals try with_reducible refine done_eq ?_)
  refine ex_loop (fun i : Nat => ⟨[(5, .c (.d (dGVs l))), (6, aI l.length), (7, aI i)], []⟩) (fun i => i ≤ l.length ∧ (l.take i).all orderly = true) (fun i => l.length - i) 0 ?_ ⟨Nat.zero_le _, rfl⟩ ?_
  · exact Weak.same (by simp -dsimp) (by simp -dsimp) (by first | rfl | (simp [closedSt, Av.ids, Ow.ids, Cl.ids, Go.Smd.keys]; done))
  · rintro i ⟨hi, hall⟩ K hK
    by_cases hlt : i < l.length
    · have hw : IntKind.wrap .i64 ((i : Int) + 1) = ((i + 1 : Nat) : Int) := by rw [wrap_i64] <;> omega
      have ho := orderly_a l[i]
      by_cases hz : orderly l[i] = true
      · rw [hz] at ho
        (repeat' (first
                                                            | (with_reducible refine br_d (fun _ => ?_) (fun _ => ?_))
                                                            | (with_reducible refine br_i (fun _ => ?_) (fun _ => ?_))
                                                            | (with_reducible refine nd_v (ho) (by first | rfl | (simp -dsimp [b1, hlt, hw]; done)) ?_)
                                                            | (with_reducible refine nw_v (ho) rfl (by first | rfl | (simp -dsimp [b1, hlt, hw]; done)) (by first | rfl | (simp -dsimp [b1, hlt, hw]; done)) ?_)
                                                            | ((with_reducible apply nd_next); (case hx => simp -dsimp [b1, hlt, hw]; first | done | with_reducible rfl); (case hid => simp -dsimp [b1, hlt, hw]; first | done | with_reducible rfl | exact ⟨rfl, rfl, rfl⟩ | exact ⟨rfl, rfl⟩); (case' h1 => intro _ _ _); (case' h0 => intro _))
                                                            | ((with_reducible apply nd_entry); (case hx => simp -dsimp [b1, hlt, hw]; first | done | with_reducible rfl); (case hid => simp -dsimp [b1, hlt, hw]; first | done | with_reducible rfl | exact ⟨rfl, rfl, rfl⟩ | exact ⟨rfl, rfl⟩))
                                                            | ((with_reducible apply nd_range); (case hx => simp -dsimp [b1, hlt, hw]; with_reducible rfl); (case hT => simp -dsimp [b1, hlt, hw]); (case hnd => assumption); (case hz => simp -dsimp [b1, hlt, hw]))
                                                            | (with_reducible refine dn_i follows_any (by kernel_rfl) ?_)
                                                            | (with_reducible exact done_eq rfl)
                                                            | (simp -dsimp [b1, hlt, hw]))); (all_goals try with_reducible refine done_eq ?_)
        refine hK _ (i + 1) ?_ ⟨by omega, by rw [List.take_succ_eq_append_getElem hlt, List.all_append, hall]; simp [hz]⟩ (by omega)
        exact Weak.same (by simp -dsimp) (by simp -dsimp) (by first | rfl | (simp [closedSt, Av.ids, Ow.ids, Cl.ids, Go.Smd.keys]; done))
      · have hz : orderly l[i] = false := by simpa using hz
        rw [hz] at ho
        (repeat' (first
                                                            | (with_reducible refine br_d (fun _ => ?_) (fun _ => ?_))
                                                            | (with_reducible refine br_i (fun _ => ?_) (fun _ => ?_))
                                                            | (with_reducible refine nd_v (ho) (by first | rfl | (simp -dsimp [b1, hlt, hw]; done)) ?_)
                                                            | (with_reducible refine nw_v (ho) rfl (by first | rfl | (simp -dsimp [b1, hlt, hw]; done)) (by first | rfl | (simp -dsimp [b1, hlt, hw]; done)) ?_)
                                                            | ((with_reducible apply nd_next); (case hx => simp -dsimp [b1, hlt, hw]; first | done | with_reducible rfl); (case hid => simp -dsimp [b1, hlt, hw]; first | done | with_reducible rfl | exact ⟨rfl, rfl, rfl⟩ | exact ⟨rfl, rfl⟩); (case' h1 => intro _ _ _); (case' h0 => intro _))
                                                            | ((with_reducible apply nd_entry); (case hx => simp -dsimp [b1, hlt, hw]; first | done | with_reducible rfl); (case hid => simp -dsimp [b1, hlt, hw]; first | done | with_reducible rfl | exact ⟨rfl, rfl, rfl⟩ | exact ⟨rfl, rfl⟩))
                                                            | ((with_reducible apply nd_range); (case hx => simp -dsimp [b1, hlt, hw]; with_reducible rfl); (case hT => simp -dsimp [b1, hlt, hw]); (case hnd => assumption); (case hz => simp -dsimp [b1, hlt, hw]))
                                                            | (with_reducible refine dn_i follows_any (by kernel_rfl) ?_)
                                                            | (with_reducible exact done_eq rfl)
                                                            | (simp -dsimp [b1, hlt, hw]))); (all_goals try with_reducible refine done_eq ?_)
        have : l.all orderly = false := by
          rw [Bool.eq_false_iff]
          intro h
          have := List.all_eq_true.1 h _ (List.getElem_mem hlt)
          rw [hz] at this; cases this
        rw [this]
    · have e : l.take i = l := List.take_of_length_le (by omega)
      rw [e] at hall
      rw [hall]
      (repeat' (first
                                                            | (with_reducible refine br_d (fun _ => ?_) (fun _ => ?_))
                                                            | (with_reducible refine br_i (fun _ => ?_) (fun _ => ?_))
                                                            | ((with_reducible apply nd_next); (case hx => simp -dsimp [hlt]; first | done | with_reducible rfl); (case hid => simp -dsimp [hlt]; first | done | with_reducible rfl | exact ⟨rfl, rfl, rfl⟩ | exact ⟨rfl, rfl⟩); (case' h1 => intro _ _ _); (case' h0 => intro _))
                                                            | ((with_reducible apply nd_entry); (case hx => simp -dsimp [hlt]; first | done | with_reducible rfl); (case hid => simp -dsimp [hlt]; first | done | with_reducible rfl | exact ⟨rfl, rfl, rfl⟩ | exact ⟨rfl, rfl⟩))
                                                            | ((with_reducible apply nd_range); (case hx => simp -dsimp [hlt]; with_reducible rfl); (case hT => simp -dsimp [hlt]); (case hnd => assumption); (case hz => simp -dsimp [hlt]))
                                                            | (with_reducible refine dn_i follows_any (by kernel_rfl) ?_)
                                                            | (with_reducible exact done_eq rfl)
                                                            | (simp -dsimp [hlt]))); (all_goals try with_reducible refine done_eq ?_)
theorem cmpV_eqV (a b : GV) (ha : Fits (treeOf a)) (hb : Fits (treeOf b)) (oa : orderly a = true) (ob : orderly b = true) : cmpV (treeOf a) (treeOf b) = 0 ↔ eqV (treeOf a) (treeOf b) = true :=
  cmp_eq _ _ _ (Nat.le_refl _) ha hb (ord_of a oa) (ord_of b ob)
end Go.Smd
end
