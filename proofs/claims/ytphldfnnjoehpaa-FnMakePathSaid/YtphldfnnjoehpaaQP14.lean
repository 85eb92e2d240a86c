/- Part 14 of the proof: Vm Ft Eq El. -/
import Derived.Test.YtphldfnnjoehpaaQP13
import Derived.Test.YtphldfnnjoehpaaQP12
set_option linter.unusedVariables false
section
set_option linter.unusedSimpArgs false
set_option maxRecDepth 100000
set_option maxHeartbeats 8000000
namespace Go.Smd
open Go.RowKit Go.Proofs
theorem plain_a (g : GV) : ACalls Try.prog 96 [gvA g] (fun r => r = .c (.d (.tr (treeOf g)))) := by
  refine ⟨⟨_, Try.func96, by kernel_rfl, rfl⟩, fun w S vs hS ha => ?_⟩
  cases ha with
  | cons h t =>
  cases t
  obtain ⟨cs, rfl, hg⟩ := gvA_iff.1 h
  refine (plain_c g cs w S hg).mono ?_
  rintro e w' ⟨v, rfl, hr, hE⟩
  exact ⟨_, _, rfl, rfl, (RepD.tr hr).mono fun b hb => .inr hb, hE⟩
theorem newVI_a (t : Tree) : ACalls Try.prog 89 [.c (.d (.tr t))] (fun r => r = .c (.d (dV t))) := by
  refine acalls_ex [] Try.func89 (by kernel_rfl) rfl Try.ntmps89 Try.results89 (Nat.le_of_ble_eq_true (by kernel_rfl)) ?_; intro hok w0 S0
  (repeat' (first
                                                            | (with_reducible refine br_d (fun _ => ?_) (fun _ => ?_))
                                                            | (with_reducible refine br_i (fun _ => ?_) (fun _ => ?_))
                                                            | ((with_reducible apply nd_i [] (f := 111)); (case hc => simp -dsimp; first | exact ⟨rfl, rfl⟩ | exact ⟨rfl, rfl, rfl⟩); (case hf => exact Try.func111); (case hA => simp -dsimp <;> with_reducible rfl); (case hok => simp -dsimp); (case hY => simp -dsimp <;> with_reducible rfl); (case hO => simp -dsimp <;> with_reducible rfl); (case hn => kernel_rfl); (case hb => rfl); (case hN => exact Try.ntmps111); (case hrs => exact Try.results111); (case hl => exact Nat.le_of_ble_eq_true (by kernel_rfl)); intro hok w0 S0)
                                                            | ((with_reducible apply nd_q (ρ := [(1000000000, 6004)]) 7 (reuse_p (.tr t) (.v .nilIface))); (case hc => simp -dsimp <;> first | exact ⟨rfl, rfl, rfl⟩ | exact ⟨rfl, rfl⟩ | done); (case hx => simp -dsimp <;> with_reducible rfl); (case ho => simp -dsimp); (case hh => simp -dsimp); (case hb => simp -dsimp))
                                                            | ((with_reducible apply nd_next); (case hx => simp -dsimp; first | done | with_reducible rfl); (case hid => simp -dsimp; first | done | with_reducible rfl | exact ⟨rfl, rfl, rfl⟩ | exact ⟨rfl, rfl⟩); (case' h1 => intro _ _ _); (case' h0 => intro _))
                                                            | ((with_reducible apply nd_entry); (case hx => simp -dsimp; first | done | with_reducible rfl); (case hid => simp -dsimp; first | done | with_reducible rfl | exact ⟨rfl, rfl, rfl⟩ | exact ⟨rfl, rfl⟩))
                                                            | ((with_reducible apply nd_range); (case hx => simp -dsimp; with_reducible rfl); (case hT => simp -dsimp); (case hnd => assumption); (case hz => simp -dsimp))
                                                            | (with_reducible refine dn_i follows_any (by kernel_rfl) ?_)
                                                            | (with_reducible exact done_eq rfl)
                                                            | (simp -dsimp))); (all_goals try with_reducible refine done_eq ?_)
theorem toValue_a (g : GV) : ACalls Try.prog 57 [gvA g] (fun r => r = .c (.d (dV (treeOf g)))) := by
  refine acalls_ex [] Try.func57 (by kernel_rfl) rfl Try.ntmps57 Try.results57 (Nat.le_of_ble_eq_true (by kernel_rfl)) ?_; intro hok w0 S0
  (repeat' (first
                                                            | (with_reducible refine br_d (fun _ => ?_) (fun _ => ?_))
                                                            | (with_reducible refine br_i (fun _ => ?_) (fun _ => ?_))
                                                            | (with_reducible refine nd_v (plain_a _) (by first | rfl | (simp -dsimp; done)) ?_)
                                                            | (with_reducible refine nw_v (plain_a _) rfl (by first | rfl | (simp -dsimp; done)) (by first | rfl | (simp -dsimp; done)) ?_)
                                                            | (with_reducible refine nd_v (newVI_a _) (by first | rfl | (simp -dsimp; done)) ?_)
                                                            | (with_reducible refine nw_v (newVI_a _) rfl (by first | rfl | (simp -dsimp; done)) (by first | rfl | (simp -dsimp; done)) ?_)
                                                            | ((with_reducible apply nd_next); (case hx => simp -dsimp; first | done | with_reducible rfl); (case hid => simp -dsimp; first | done | with_reducible rfl | exact ⟨rfl, rfl, rfl⟩ | exact ⟨rfl, rfl⟩); (case' h1 => intro _ _ _); (case' h0 => intro _))
                                                            | ((with_reducible apply nd_entry); (case hx => simp -dsimp; first | done | with_reducible rfl); (case hid => simp -dsimp; first | done | with_reducible rfl | exact ⟨rfl, rfl, rfl⟩ | exact ⟨rfl, rfl⟩))
                                                            | ((with_reducible apply nd_range); (case hx => simp -dsimp; with_reducible rfl); (case hT => simp -dsimp); (case hnd => assumption); (case hz => simp -dsimp))
                                                            | (with_reducible refine dn_i follows_any (by kernel_rfl) ?_)
                                                            | (with_reducible exact done_eq rfl)
                                                            | (simp -dsimp))); (all_goals try with_reducible refine done_eq ?_)
theorem gv_fits {g : GV} (h : okA Try.prog (gvA g)) : Fits (treeOf g) := by
  obtain ⟨w, S, v, hr⟩ := h
  obtain ⟨cs, _, hg⟩ := gvA_iff.1 hr
  exact tree_fits hg
end Go.Smd
end
section
set_option linter.unusedSimpArgs false
namespace Go.Smd
open Go.RowKit Go.Proofs
theorem Tree.ind {P : Tree → Prop} (hn : P .nil) (hb : ∀ b, P (.bool b)) (hi : ∀ n, P (.int n)) (hf : ∀ f, P (.float f)) (hs : ∀ s, P (.str s)) (hl : ∀ l, (∀ x ∈ l, P x) → P (.list l)) (hm : ∀ m, (∀ p ∈ m, P p.2) → P (.map m)) : ∀ t, P t
  | .nil => hn
  | .bool b => hb b
  | .int n => hi n
  | .float f => hf f
  | .str s => hs s
  | .list l => hl l fun x _hx => Tree.ind hn hb hi hf hs hl hm x
  | .map m => hm m fun p _hp => Tree.ind hn hb hi hf hs hl hm p.2
termination_by t => SizeOf.sizeOf t
decreasing_by
  · have := List.sizeOf_lt_of_mem _hx
    simp; omega
  · have h1 := List.sizeOf_lt_of_mem _hp
    have h2 : SizeOf.sizeOf p.2 < SizeOf.sizeOf p := by cases p; simp; omega
    simp; omega
mutual
def fromT : Tree → GV
  | .nil => .mk 0 0 0 ⟨#[]⟩ [] []
  | .bool b => .mk 1 (if b then 1 else 0) 0 ⟨#[]⟩ [] []
  | .int n => .mk 2 n 0 ⟨#[]⟩ [] []
  | .float f => .mk 3 0 f ⟨#[]⟩ [] []
  | .str s => .mk 4 0 0 s [] []
  | .list l => .mk 5 0 0 ⟨#[]⟩ [] (fromTs l)
  | .map m => mkMap (fromMs m)
def fromTs : List Tree → List GV
  | [] => []
  | x :: l => fromT x :: fromTs l
def fromMs : List (ByteArray × Tree) → List (ByteArray × GV)
  | [] => []
  | p :: m => sIns p.1 (fromT p.2) (fromMs m)
end
theorem fromTs_eq : ∀ l, fromTs l = l.map fromT
  | [] => by simp [fromTs]
  | x :: l => by simp [fromTs, fromTs_eq l]
theorem fromMs_sorted : ∀ m, Sorted (fromMs m)
  | [] => by simp [fromMs, Sorted]
  | p :: m => by simp only [fromMs]; exact sIns_sorted (fromMs_sorted m)
theorem fromMs_mem {k : ByteArray} {v : GV} : ∀ {m : List (ByteArray × Tree)}, (k, v) ∈ fromMs m → ∃ t, (k, t) ∈ m ∧ v = fromT t
  | [], h => by simp [fromMs] at h
  | p :: m, h => by
    simp only [fromMs] at h
    rcases mem_sIns h with h | h
    · cases h; exact ⟨p.2, List.mem_cons_self .., rfl⟩
    · obtain ⟨t, h1, h2⟩ := fromMs_mem h
      exact ⟨t, List.mem_cons_of_mem _ h1, h2⟩
theorem fromMs_keys (q : ByteArray) : ∀ m : List (ByteArray × Tree), q ∈ (fromMs m).map (·.1) ↔ q ∈ m.map (·.1)
  | [] => by simp [fromMs]
  | p :: m => by
    simp only [fromMs]
    have h : ∀ (k : ByteArray) (v : GV) (l : List (ByteArray × GV)), q ∈ (sIns k v l).map (·.1) ↔ q = k ∨ q ∈ l.map (·.1) := fun k v l => by
      induction l with
      | nil => simp [sIns]
      | cons y l ih =>
        simp only [sIns]
        split
        · simp only [List.map_cons, List.mem_cons, ih]
          constructor <;> rintro (h | h | h) <;> simp [h]
        · split
          · next h => simp [h]
          · simp
    rw [h, fromMs_keys q m]; simp
theorem sIns_mem_iff {k : ByteArray} {v : GV} {p : ByteArray × GV} : ∀ {m : List (ByteArray × GV)}, Sorted m → (p ∈ sIns k v m ↔ p = (k, v) ∨ (p ∈ m ∧ p.1 ≠ k))
  | [], _ => by simp [sIns]
  | q :: m, hs => by
    have hs' := hs
    simp only [Sorted, List.map_cons, List.pairwise_cons] at hs
    have hq : ∀ x ∈ m, blt q.1 x.1 = true := fun x hx => hs.1 x.1 (List.mem_map_of_mem hx)
    simp only [sIns]
    split
    · next hb =>
      rw [List.mem_cons, sIns_mem_iff hs.2, List.mem_cons]
      constructor
      · rintro (h | h | h)
        · subst h; exact .inr ⟨.inl rfl, blt_ne hb⟩
        · exact .inl h
        · exact .inr ⟨.inr h.1, h.2⟩
      · rintro (h | ⟨h | h, h2⟩)
        · exact .inr (.inl h)
        · exact .inl h
        · exact .inr (.inr ⟨h, h2⟩)
    · next hb =>
      split
      · next he =>
        rw [List.mem_cons, List.mem_cons]
        constructor
        · rintro (h | h)
          · exact .inl h
          · exact .inr ⟨.inr h, fun e => blt_ne (hq p h) (he.trans e.symm)⟩
        · rintro (h | ⟨h | h, h2⟩)
          · exact .inl h
          · subst h; exact absurd he h2
          · exact .inr h
      · next he =>
        have hk : blt k q.1 = true := by
          rcases blt_tri q.1 k with h' | h' | h'
          · exact absurd h' hb
          · exact absurd h' he
          · exact h'
        rw [List.mem_cons]
        constructor
        · rintro (h | h)
          · exact .inl h
          · refine .inr ⟨h, fun e => ?_⟩
            rcases List.mem_cons.1 h with rfl | h
            · exact he e
            · have := blt_trans hk (hq p h); rw [e, blt_irrefl] at this; cases this
        · rintro (h | ⟨h, _⟩)
          · exact .inl h
          · exact .inr h
theorem sorted_ext : ∀ {a b : List (ByteArray × GV)}, Sorted a → Sorted b → (∀ p, p ∈ a ↔ p ∈ b) → a = b
  | [], [], _, _, _ => rfl
  | [], y :: b, _, _, h => by have := (h y).2 (List.mem_cons_self ..); cases this
  | x :: a, [], _, _, h => by have := (h x).1 (List.mem_cons_self ..); cases this
  | x :: a, y :: b, ha, hb, h => by
    simp only [Sorted, List.map_cons, List.pairwise_cons] at ha hb
    have hx1 : ∀ p ∈ a, blt x.1 p.1 = true := fun p hp => ha.1 p.1 (List.mem_map_of_mem hp)
    have hy1 : ∀ p ∈ b, blt y.1 p.1 = true := fun p hp => hb.1 p.1 (List.mem_map_of_mem hp)
    have hxy : x = y := by
      rcases List.mem_cons.1 ((h x).1 (List.mem_cons_self ..)) with e | hx
      · exact e
      · rcases List.mem_cons.1 ((h y).2 (List.mem_cons_self ..)) with e | hy
        · exact e.symm
        · have h1 := hy1 x hx
          have h2 := hx1 y hy
          rw [blt_asymm h1] at h2; cases h2
    subst hxy
    rw [sorted_ext ha.2 hb.2 fun p => ?_]
    constructor
    · intro hp
      rcases List.mem_cons.1 ((h p).1 (List.mem_cons_of_mem _ hp)) with rfl | h'
      · have := hx1 p hp; rw [blt_irrefl] at this; cases this
      · exact h'
    · intro hp
      rcases List.mem_cons.1 ((h p).2 (List.mem_cons_of_mem _ hp)) with rfl | h'
      · have := hy1 p hp; rw [blt_irrefl] at this; cases this
      · exact h'
theorem sIns_twice {k : ByteArray} {a b : GV} {m : List (ByteArray × GV)} (hs : Sorted m) : sIns k a (sIns k b m) = sIns k a m := by
  refine sorted_ext (sIns_sorted (sIns_sorted hs)) (sIns_sorted hs) fun p => ?_
  rw [sIns_mem_iff (sIns_sorted hs), sIns_mem_iff hs, sIns_mem_iff hs]
  constructor
  · rintro (h | ⟨h | h, h2⟩)
    · exact .inl h
    · subst h; exact absurd rfl h2
    · exact .inr h
  · rintro (h | h)
    · exact .inl h
    · exact .inr ⟨.inr h, h.2⟩
theorem sIns_comm {k q : ByteArray} (hkq : k ≠ q) {a b : GV} {m : List (ByteArray × GV)} (hs : Sorted m) : sIns k a (sIns q b m) = sIns q b (sIns k a m) := by
  refine sorted_ext (sIns_sorted (sIns_sorted hs)) (sIns_sorted (sIns_sorted hs)) fun p => ?_
  rw [sIns_mem_iff (sIns_sorted hs), sIns_mem_iff hs, sIns_mem_iff (sIns_sorted hs), sIns_mem_iff hs]
  constructor
  · rintro (h | ⟨h | h, h2⟩)
    · exact .inr ⟨.inl h, by rw [h]; exact hkq⟩
    · exact .inl h
    · exact .inr ⟨.inr ⟨h.1, h2⟩, h.2⟩
  · rintro (h | ⟨h | h, h2⟩)
    · exact .inr ⟨.inl h, by rw [h]; exact hkq.symm⟩
    · exact .inl h
    · exact .inr ⟨.inr ⟨h.1, h2⟩, h.2⟩
theorem fromMs_ins (k : ByteArray) (t : Tree) : ∀ m : Fields, fromMs (ins k t m) = sIns k (fromT t) (fromMs m)
  | [] => by simp [ins, fromMs]
  | p :: m => by
    simp only [ins]
    split
    · next h => simp only [fromMs, h]; exact (sIns_twice (fromMs_sorted m)).symm
    · next h =>
      simp only [fromMs]
      rw [fromMs_ins k t m, sIns_comm h (fromMs_sorted m)]
theorem from_mapOf : ∀ (ks : List ByteArray) (l : List GV) (m : Fields), (∀ x ∈ l, fromT (treeOf x) = clean x) → fromMs (mapOf ks (treesOf l) m) = insAll ks (cleans l) (fromMs m)
  | [], l, m, _ => by cases l <;> simp [mapOf, treesOf, cleans, insAll]
  | k :: ks, [], m, _ => by simp [mapOf, treesOf, cleans, insAll]
  | k :: ks, x :: l, m, h => by
    simp only [treesOf, cleans, mapOf, insAll]
    rw [from_mapOf ks l _ fun y hy => h y (List.mem_cons_of_mem _ hy), fromMs_ins, h x (List.mem_cons_self ..)]
theorem from_tree (v : GV) : fromT (treeOf v) = clean v := by
  induction v using GV.ind with
  | h kind n f s keys l IH =>
  simp only [treeOf, clean]
  repeat' split
  all_goals (try simp only [fromT])
  all_goals (try rfl)
  · next h => subst h; simp
  · next h => simp [h]
  · have : fromTs (treesOf l) = cleans l := by
      rw [fromTs_eq, treesOf_eq, cleans_eq, List.map_map]
      exact List.map_congr_left fun x hx => IH x hx
    rw [this]
  · rw [from_mapOf keys l [] IH]; rfl
theorem insAll_self : ∀ {fs m : List (ByteArray × GV)}, Sorted fs → (∀ p ∈ fs, clean p.2 = p.2) → Sorted m → (∀ p ∈ m, ∀ q ∈ fs, blt p.1 q.1 = true) → insAll (fs.map (·.1)) (cleans (fs.map (·.2))) m = m ++ fs
  | [], m, _, _, _, _ => by simp [insAll]
  | q :: fs, m, hs, hc, hm, hlt => by
    simp only [List.map_cons, cleans, insAll]
    have hq : clean q.2 = q.2 := hc q (List.mem_cons_self ..)
    rw [hq]
    have hs' := hs
    simp only [Sorted, List.map_cons, List.pairwise_cons] at hs
    have e : sIns q.1 q.2 m = m ++ [q] := by
      have : ∀ m : List (ByteArray × GV), (∀ p ∈ m, blt p.1 q.1 = true) → sIns q.1 q.2 m = m ++ [q] := by
        intro m
        induction m with
        | nil => intro _; simp [sIns]
        | cons p m ih =>
          intro h
          simp only [sIns, h p (List.mem_cons_self ..), if_true, List.cons_append]
          rw [ih fun x hx => h x (List.mem_cons_of_mem _ hx)]
      exact this m fun p hp => hlt p hp q (List.mem_cons_self ..)
    rw [e, insAll_self hs.2 (fun p hp => hc p (List.mem_cons_of_mem _ hp)) (e ▸ sIns_sorted hm) fun p hp x hx => ?_]
    · simp
    · rcases List.mem_append.1 hp with hp | hp
      · exact hlt p hp x (List.mem_cons_of_mem _ hx)
      · simp at hp; subst hp; exact hs.1 x.1 (List.mem_map_of_mem hx)
theorem insAll_vals : ∀ (ks : List ByteArray) (l : List GV) (m : List (ByteArray × GV)) (Q : GV → Prop), (∀ x ∈ l, Q x) → (∀ p ∈ m, Q p.2) → Sorted m → ∀ p ∈ insAll ks l m, Q p.2
  | [], l, m, Q, _, hm, _, p, hp => by cases l <;> exact hm p (by simpa [insAll] using hp)
  | k :: ks, [], m, Q, _, hm, _, p, hp => hm p (by simpa [insAll] using hp)
  | k :: ks, x :: l, m, Q, hl, hm, hs, p, hp => by
    simp only [insAll] at hp
    refine insAll_vals ks l _ Q (fun y hy => hl y (List.mem_cons_of_mem _ hy)) (fun q hq => ?_) (sIns_sorted hs) p hp
    rcases (sIns_mem_iff hs).1 hq with rfl | ⟨hq, _⟩
    · exact hl x (List.mem_cons_self ..)
    · exact hm q hq
theorem clean_idem (v : GV) : clean (clean v) = clean v := by
  induction v using GV.ind with
  | h kind n f s keys l IH =>
  have hl : ∀ x ∈ cleans l, clean x = x := fun x hx => by
    rw [cleans_eq] at hx
    obtain ⟨y, hy, rfl⟩ := List.mem_map.1 hx
    exact IH y hy
  have hcl : cleans (cleans l) = cleans l := by
    rw [cleans_eq (cleans l)]
    exact (List.map_congr_left hl).trans (List.map_id' _)
  simp only [clean]
  repeat' split
  all_goals (try (simp [clean]; done))
  · simp [clean, hcl]
  · have hs := insAll_sorted keys (cleans l) [] .nil
    have hv := insAll_vals keys (cleans l) [] (fun x => clean x = x) hl (by simp) .nil
    have := insAll_self (m := []) hs hv .nil (by simp)
    simp only [List.nil_append] at this
    simp [mkMap, clean, this]
end Go.Smd
end
section
set_option linter.unusedSimpArgs false
set_option maxRecDepth 100000
set_option maxHeartbeats 8000000
namespace Go.Smd
open Go.RowKit Go.Proofs
abbrev gvX (k n : Int) (f : Nat) (s : ByteArray) (ks : List ByteArray) (l : List GV) : Av := .agg [.d (dI k), .d (dI n), .d (dF f), .d (dS s), .d (dStrs ks), .d (dGVs l)]
theorem gvA_x (k n : Int) (f : Nat) (s : ByteArray) (ks : List ByteArray) (l : List GV) : gvA (.mk k n f s ks l) = gvX k n f s ks l := by simp only [gvA, gvD_mk, cls_cons, cls_nil]
end Go.Smd
end
section
set_option linter.unusedSimpArgs false
set_option maxRecDepth 100000
set_option maxHeartbeats 8000000
namespace Go.Smd
open Go.RowKit Go.Proofs
structure EV where
  k : Int
  s : ByteArray
  keys : List ByteArray
  l : List GV
  v : GV
  n : Int
def evD (e : EV) : List D := [dI e.k, dS e.s, dStrs e.keys, dGVs e.l] ++ gvD e.v ++ [dI e.n]
abbrev evA (e : EV) : Av := .agg (cls (evD e))
@[simp] theorem evD_length (e : EV) : (evD e).length = 11 := by simp [evD]
@[simp] theorem evD_take (e : EV) : (evD e).take 11 = evD e := List.take_of_length_le (by simp)
@[simp] theorem clsE_take (e : EV) : (cls (evD e)).take 11 = cls (evD e) := List.take_of_length_le (by simp)
abbrev evX (k : Int) (s : ByteArray) (keys : List ByteArray) (l : List GV) (a b : Int) (c : Nat) (d : ByteArray) (e : List ByteArray) (f : List GV) (n : Int) : Av :=
  .agg [.d (dI k), .d (dS s), .d (dStrs keys), .d (dGVs l), .d (dI a), .d (dI b), .d (dF c), .d (dS d), .d (dStrs e), .d (dGVs f), .d (dI n)]
theorem evA_x (k : Int) (s : ByteArray) (keys : List ByteArray) (l : List GV) (a b : Int) (c : Nat) (d : ByteArray) (e : List ByteArray) (f : List GV) (n : Int) : evA ⟨k, s, keys, l, .mk a b c d e f, n⟩ = evX k s keys l a b c d e f n := by
  simp only [evD, evA, gvD_mk, List.cons_append, List.nil_append, cls_cons, cls_nil]
@[simp] theorem coL_ev (e : EV) : coL [none, none, some 9, some 26, none, none, none, none, some 9, some 26, none] (cls (evD e)) = cls (evD e) := by
  obtain ⟨k, s, keys, l, ⟨a, b, c, d, p, f⟩, n⟩ := e
  simp only [evD, gvD_mk]; rfl
structure EVk (e : EV) : Prop where
  hk : -9223372036854775808 ≤ e.k ∧ e.k ≤ 9223372036854775807
  hkeys : e.keys.length * 16 ≤ 140737488351232
  hl : e.l.length * 88 ≤ 140737488351232
  hitem : ∀ x ∈ e.l, okA Try.prog (gvA x)
  hv : okA Try.prog (gvA e.v)
theorem toValue_x (k n : Int) (f : Nat) (s : ByteArray) (ks : List ByteArray) (l : List GV) : ACalls Try.prog 57 [gvX k n f s ks l] (fun r => r = .c (.d (dV (treeOf (.mk k n f s ks l))))) := by
  have h := toValue_a (.mk k n f s ks l)
  rw [gvA_x] at h; exact h
abbrev Fds := List (ByteArray × Tree)
def fdRow (p : ByteArray × Tree) : List D := [dS p.1, dV p.2]
abbrev dFds (l : Fds) : D := .sl 204 (l.map fdRow)
def zipF (ks : List ByteArray) (l : List GV) : Fds := ks.zip (l.map treeOf)
theorem toKeys_x (k : Int) (s : ByteArray) (keys : List ByteArray) (l : List GV) (a b : Int) (c : Nat) (d : ByteArray) (e : List ByteArray) (f : List GV) (n : Int) (hk : keys.length * 16 ≤ 140737488351232) (hl : l.length * 88 ≤ 140737488351232) :
    ACalls Try.prog 102 [evX k s keys l a b c d e f n] (fun r => r = .c (.d (dFds (zipF keys l)))) := by
  refine acalls_ex [] Try.func102 (by kernel_rfl) rfl Try.ntmps102 Try.results102 (Nat.le_of_ble_eq_true (by kernel_rfl)) ?_; intro hok w0 S0
  clear hok
  have b1 : keys.length ≤ 9223372036854775807 := by omega
  have b2 : l.length ≤ 9223372036854775807 := by omega
  (repeat' (first
                                                            | (with_reducible refine br_d (fun _ => ?_) (fun _ => ?_))
                                                            | (with_reducible refine br_i (fun _ => ?_) (fun _ => ?_))
                                                            | ((with_reducible apply nd_next); (case hx => simp -dsimp [b1, b2]; first | done | with_reducible rfl); (case hid => simp -dsimp [b1, b2]; first | done | with_reducible rfl | exact ⟨rfl, rfl, rfl⟩ | exact ⟨rfl, rfl⟩); (case' h1 => intro _ _ _); (case' h0 => intro _))
                                                            | ((with_reducible apply nd_entry); (case hx => simp -dsimp [b1, b2]; first | done | with_reducible rfl); (case hid => simp -dsimp [b1, b2]; first | done | with_reducible rfl | exact ⟨rfl, rfl, rfl⟩ | exact ⟨rfl, rfl⟩))
                                                            | ((with_reducible apply nd_range); (case hx => simp -dsimp [b1, b2]; with_reducible rfl); (case hT => simp -dsimp [b1, b2]); (case hnd => assumption); (case hz => simp -dsimp [b1, b2]))
                                                            | (with_reducible refine dn_i follows_any (by kernel_rfl) ?_)
                                                            | (with_reducible exact done_eq rfl)
                                                            | (simp -dsimp [b1, b2]))); (all_goals try with_reducible refine done_eq ?_)
  refine ex_loop (fun i : Nat => ⟨[(1, .c (.own 1 0)), (3, .c (.gs 6 ((zipF keys l).take i).length)), (8, .c (.d (dStrs keys))), (9, aV (.int .i64 keys.length)), (10, aV (.int .i64 i))], [(6, .arr ((zipF keys l).take i).length 204 (((zipF keys l).take i).map fdRow)),
    (1, .cells [.d (dI k), .d (dS s), .d (dStrs keys), .d (dGVs l), .d (dI a), .d (dI b), .d (dF c), .d (dS d), .d (dStrs e), .d (dGVs f), .d (dI n)] 60)]⟩) (fun i => i ≤ keys.length) (fun i => keys.length - i) 0 ?_ (Nat.zero_le _) ?_
  · exact Weak.same (by simp -dsimp [List.take_zero, List.length_nil, List.map_nil]) (by simp -dsimp [List.take_zero, List.length_nil, List.map_nil]) (by first | rfl | (simp [closedSt, Av.ids, Ow.ids, Cl.ids, Go.Smd.keys]; done))
  · rintro i hi K hK
    by_cases hlt : i < keys.length
    · have hw : IntKind.wrap .i64 ((i : Int) + 1) = ((i + 1 : Nat) : Int) := by rw [wrap_i64] <;> omega
      by_cases hl2 : i < l.length
      · have h1 : ((zipF keys l).take (i + 1)) = (zipF keys l).take i ++ [(keys[i], treeOf l[i])] := by
          rw [List.take_succ_eq_append_getElem (by simp [zipF]; omega)]
          simp [zipF]
        have h2 : ((zipF keys l).take i).length = i := by simp [zipF]; omega
        have hb : (min i (zipF keys l).length + 1) * 32 ≤ 140737488351232 := by omega
        rw [h2]
        (repeat' (first
                                                            | (with_reducible refine br_d (fun _ => ?_) (fun _ => ?_))
                                                            | (with_reducible refine br_i (fun _ => ?_) (fun _ => ?_))
                                                            | (with_reducible refine nd_v (toValue_a _) (by first | rfl | (simp -dsimp [b1, b2, hlt, hl2, hw, h2, hb, toDs]; done)) ?_)
                                                            | (with_reducible refine nw_v (toValue_a _) rfl (by first | rfl | (simp -dsimp [b1, b2, hlt, hl2, hw, h2, hb, toDs]; done)) (by first | rfl | (simp -dsimp [b1, b2, hlt, hl2, hw, h2, hb, toDs]; done)) ?_)
                                                            | ((with_reducible apply nd_next); (case hx => simp -dsimp [b1, b2, hlt, hl2, hw, h2, hb, toDs]; first | done | with_reducible rfl); (case hid => simp -dsimp [b1, b2, hlt, hl2, hw, h2, hb, toDs]; first | done | with_reducible rfl | exact ⟨rfl, rfl, rfl⟩ | exact ⟨rfl, rfl⟩); (case' h1 => intro _ _ _); (case' h0 => intro _))
                                                            | ((with_reducible apply nd_entry); (case hx => simp -dsimp [b1, b2, hlt, hl2, hw, h2, hb, toDs]; first | done | with_reducible rfl); (case hid => simp -dsimp [b1, b2, hlt, hl2, hw, h2, hb, toDs]; first | done | with_reducible rfl | exact ⟨rfl, rfl, rfl⟩ | exact ⟨rfl, rfl⟩))
                                                            | ((with_reducible apply nd_range); (case hx => simp -dsimp [b1, b2, hlt, hl2, hw, h2, hb, toDs]; with_reducible rfl); (case hT => simp -dsimp [b1, b2, hlt, hl2, hw, h2, hb, toDs]); (case hnd => assumption); (case hz => simp -dsimp [b1, b2, hlt, hl2, hw, h2, hb, toDs]))
                                                            | (with_reducible refine dn_i follows_any (by kernel_rfl) ?_)
                                                            | (with_reducible exact done_eq rfl)
                                                            | (simp -dsimp [b1, b2, hlt, hl2, hw, h2, hb, toDs]))); (all_goals try with_reducible refine done_eq ?_)
        refine hK _ (i + 1) ?_ (by omega) (by omega)
        rw [h1]
        exact Weak.same (by simp -dsimp [h2, List.map_append, List.map_take, fdRow]) (by simp -dsimp [h2, List.map_append, List.map_take, fdRow]) (by first | rfl | (simp [closedSt, Av.ids, Ow.ids, Cl.ids, Go.Smd.keys]; done))
      · have h1 : ((zipF keys l).take (i + 1)) = (zipF keys l).take i := by
          rw [List.take_of_length_le (by simp [zipF]; omega), List.take_of_length_le (by simp [zipF]; omega)]
        (repeat' (first
                                                            | (with_reducible refine br_d (fun _ => ?_) (fun _ => ?_))
                                                            | (with_reducible refine br_i (fun _ => ?_) (fun _ => ?_))
                                                            | ((with_reducible apply nd_next); (case hx => simp -dsimp [b1, b2, hlt, hl2, hw]; first | done | with_reducible rfl); (case hid => simp -dsimp [b1, b2, hlt, hl2, hw]; first | done | with_reducible rfl | exact ⟨rfl, rfl, rfl⟩ | exact ⟨rfl, rfl⟩); (case' h1 => intro _ _ _); (case' h0 => intro _))
                                                            | ((with_reducible apply nd_entry); (case hx => simp -dsimp [b1, b2, hlt, hl2, hw]; first | done | with_reducible rfl); (case hid => simp -dsimp [b1, b2, hlt, hl2, hw]; first | done | with_reducible rfl | exact ⟨rfl, rfl, rfl⟩ | exact ⟨rfl, rfl⟩))
                                                            | ((with_reducible apply nd_range); (case hx => simp -dsimp [b1, b2, hlt, hl2, hw]; with_reducible rfl); (case hT => simp -dsimp [b1, b2, hlt, hl2, hw]); (case hnd => assumption); (case hz => simp -dsimp [b1, b2, hlt, hl2, hw]))
                                                            | (with_reducible refine dn_i follows_any (by kernel_rfl) ?_)
                                                            | (with_reducible exact done_eq rfl)
                                                            | (simp -dsimp [b1, b2, hlt, hl2, hw]))); (all_goals try with_reducible refine done_eq ?_)
        refine hK _ (i + 1) ?_ (by omega) (by omega)
        rw [h1]
        exact Weak.same (by simp -dsimp) (by simp -dsimp) (by first | rfl | (simp [closedSt, Av.ids, Ow.ids, Cl.ids, Go.Smd.keys]; done))
    · have h1 : (zipF keys l).take i = zipF keys l := List.take_of_length_le (by simp [zipF]; omega)
      (repeat' (first
                                                            | (with_reducible refine br_d (fun _ => ?_) (fun _ => ?_))
                                                            | (with_reducible refine br_i (fun _ => ?_) (fun _ => ?_))
                                                            | ((with_reducible apply nd_next); (case hx => simp -dsimp [hlt, h1]; first | done | with_reducible rfl); (case hid => simp -dsimp [hlt, h1]; first | done | with_reducible rfl | exact ⟨rfl, rfl, rfl⟩ | exact ⟨rfl, rfl⟩); (case' h1 => intro _ _ _); (case' h0 => intro _))
                                                            | ((with_reducible apply nd_entry); (case hx => simp -dsimp [hlt, h1]; first | done | with_reducible rfl); (case hid => simp -dsimp [hlt, h1]; first | done | with_reducible rfl | exact ⟨rfl, rfl, rfl⟩ | exact ⟨rfl, rfl⟩))
                                                            | ((with_reducible apply nd_range); (case hx => simp -dsimp [hlt, h1]; with_reducible rfl); (case hT => simp -dsimp [hlt, h1]); (case hnd => assumption); (case hz => simp -dsimp [hlt, h1]))
                                                            | (with_reducible refine dn_i follows_any (by kernel_rfl) ?_)
                                                            | (with_reducible exact done_eq rfl)
                                                            | (simp -dsimp [hlt, h1]))); (all_goals try with_reducible refine done_eq ?_)
def ptnA (op : BinOp) (q : Option (Option TypeId)) : Option Av :=
  match op, q with
  | .eql, some (some _) => some (.c (.d (.v (.bool false))))
  | .neq, some (some _) => some (.c (.d (.v (.bool true))))
  | _, _ => none
@[simp ↓] theorem binA_ptn {P : Program} {op : BinOp} {T : TypeId} {ox oy : Operand} {xs : List D} : binA P op T ox oy (.c (.d (.pt xs))) (.c (.d (.v (.pointer none)))) = ptnA op (P.ptrT T) := by
  simp only [binA, ptnA, Go.Program.ptrT]
  cases h : P.underlying T with
  | none => cases op <;> rfl
  | some d => cases d <;> cases op <;> rfl
def _root_.Go.Program.isPtrT (P : Program) (T : TypeId) : Bool := match P.ptrT T with | some (some _) => true | _ => false
theorem equal_nil {P : Program} {T : TypeId} (h : P.isPtrT T = true) : evalPure P (Op.equal T (.pointer none) (.pointer none)) = some true := by
  obtain ⟨E, hu⟩ : ∃ E, P.underlying T = some (.pointer E) := by
    unfold Go.Program.isPtrT Go.Program.ptrT at h
    cases hu : P.underlying T with
    | none => rw [hu] at h; cases h
    | some d => rw [hu] at h; cases d <;> first | exact ⟨_, rfl⟩ | cases h
  show evalPure P (Op.equalIn (9999 + 1) T (.pointer none) (.pointer none)) = _
  unfold Op.equalIn
  simp [underlying, program, bind, Sem.bind, evalPure, hu, pure]
theorem evalPure_b {P : Program} {g : Bool → Value} : ∀ {m : Sem Bool} {x : Bool}, evalPure P m = some x → evalPure P (m.bind fun a => Sem.pure (g a)) = some (g x) := by
  intro m
  induction m with
  | pure a => intro x h; simp [evalPure] at h; subst h; rfl
  | program k ih => intro x h; exact ih P h
  | mark m k ih => intro x h; exact ih h
  | _ => intro x h; simp [evalPure] at h
@[simp ↓] theorem binA_pne {P : Program} {T : TypeId} {ox oy : Operand} (h : P.isPtrT T = true) : binA P .eql T ox oy (.c (.d (.v (.pointer none)))) (.c (.d (.v (.pointer none)))) = some (.c (.d (.v (.bool true)))) := by
  have := equal_nil h
  simp [binA, valPure, eqGuard, binOp, pure, Sem.bind, bind, evalPure, okVb]
  rw [evalPure_b (g := fun b => .bool b) this]
  rfl
@[simp ↓] theorem binA_pnn {P : Program} {T : TypeId} {ox oy : Operand} (h : P.isPtrT T = true) : binA P .neq T ox oy (.c (.d (.v (.pointer none)))) (.c (.d (.v (.pointer none)))) = some (.c (.d (.v (.bool false)))) := by
  have := equal_nil h
  simp [binA, valPure, eqGuard, binOp, pure, Sem.bind, bind, evalPure, okVb]
  rw [evalPure_b (g := fun b => .bool (!b)) this]
  rfl
attribute [simp] Go.Program.isPtrT
attribute [simp] ptnA
inductive LE where
  | name (s : ByteArray)
  | key (l : Fds)
  | val (t : Tree)
  | idx (n : Int)
abbrev dNil : D := .v (.pointer none)
abbrev leD : LE → List D
  | .name s => [.pt [dS s], dNil, dNil, dNil]
  | .key l => [dNil, .pt [dFds l], dNil, dNil]
  | .val t => [dNil, dNil, .pt [dV t], dNil]
  | .idx n => [dNil, dNil, dNil, .pt [dI n]]
abbrev leA (p : LE) : Av := .agg (cls (leD p))
@[simp] theorem leD_length (p : LE) : (leD p).length = 4 := by cases p <;> rfl
@[simp] theorem leD_take (p : LE) : (leD p).take 4 = leD p := List.take_of_length_le (by simp)
@[simp] theorem clsL_take (p : LE) : (cls (leD p)).take 4 = cls (leD p) := List.take_of_length_le (by simp)
@[simp] theorem coL_le (p : LE) : coL [none, none, none, none] (cls (leD p)) = cls (leD p) := by cases p <;> rfl
def toLE (e : EV) : LE := if e.k = 1 then .key (zipF e.keys e.l) else if e.k = 2 then .val (treeOf e.v) else if e.k = 3 then .idx e.n else .name e.s
theorem toElem_x (k : Int) (s : ByteArray) (keys : List ByteArray) (l : List GV) (a b : Int) (c : Nat) (d : ByteArray) (e : List ByteArray) (f : List GV) (n : Int) (hk : keys.length * 16 ≤ 140737488351232) (hl : l.length * 88 ≤ 140737488351232) :
    ACalls Try.prog 71 [evX k s keys l a b c d e f n] (fun r => r = leA (toLE ⟨k, s, keys, l, .mk a b c d e f, n⟩)) := by
  refine acalls_ex [] Try.func71 (by kernel_rfl) rfl Try.ntmps71 Try.results71 (Nat.le_of_ble_eq_true (by kernel_rfl)) ?_; intro hok w0 S0
  clear hok
  (repeat' (first
                                                            | (with_reducible refine br_d (fun _ => ?_) (fun _ => ?_))
                                                            | (with_reducible refine br_i (fun _ => ?_) (fun _ => ?_))
                                                            | (with_reducible refine nd_v (toKeys_x _ _ _ _ _ _ _ _ _ _ _ hk hl) (by first | rfl | (simp -dsimp; done)) ?_)
                                                            | (with_reducible refine nw_v (toKeys_x _ _ _ _ _ _ _ _ _ _ _ hk hl) rfl (by first | rfl | (simp -dsimp; done)) (by first | rfl | (simp -dsimp; done)) ?_)
                                                            | (with_reducible refine nd_v (toValue_x _ _ _ _ _ _) (by first | rfl | (simp -dsimp; done)) ?_)
                                                            | (with_reducible refine nw_v (toValue_x _ _ _ _ _ _) rfl (by first | rfl | (simp -dsimp; done)) (by first | rfl | (simp -dsimp; done)) ?_)
                                                            | ((with_reducible apply nd_next); (case hx => simp -dsimp; first | done | with_reducible rfl); (case hid => simp -dsimp; first | done | with_reducible rfl | exact ⟨rfl, rfl, rfl⟩ | exact ⟨rfl, rfl⟩); (case' h1 => intro _ _ _); (case' h0 => intro _))
                                                            | ((with_reducible apply nd_entry); (case hx => simp -dsimp; first | done | with_reducible rfl); (case hid => simp -dsimp; first | done | with_reducible rfl | exact ⟨rfl, rfl, rfl⟩ | exact ⟨rfl, rfl⟩))
                                                            | ((with_reducible apply nd_range); (case hx => simp -dsimp; with_reducible rfl); (case hT => simp -dsimp); (case hnd => assumption); (case hz => simp -dsimp))
                                                            | (with_reducible refine dn_i follows_any (by kernel_rfl) ?_)
                                                            | (with_reducible exact done_eq rfl)
                                                            | (simp -dsimp))); (all_goals try with_reducible refine done_eq ?_)
  all_goals simp_all [toLE, cls]
def fitsLE : LE → Prop
  | .key l => ∀ p ∈ l, Fits p.2
  | .val t => Fits t
  | _ => True
@[simp] theorem isStr_s : Try.prog.isStr 9 = true := by kernel_rfl
theorem plainList_a (l : List GV) (hl : l.length * 88 ≤ 140737488351232) : ACalls Try.prog 58 [.c (.d (dGVs l))] (fun r => r = .c (.d (dGVs (l.map clean)))) := by
  refine acalls_ex [] Try.func58 (by kernel_rfl) rfl Try.ntmps58 Try.results58 (Nat.le_of_ble_eq_true (by kernel_rfl)) ?_; intro hok w0 S0
  clear hok
  have b1 : l.length ≤ 9223372036854775807 := by omega
  have b2 : 88 * l.length ≤ 281474976710656 := by omega
  (repeat' (first
                                                            | (with_reducible refine br_d (fun _ => ?_) (fun _ => ?_))
                                                            | (with_reducible refine br_i (fun _ => ?_) (fun _ => ?_))
                                                            | ((with_reducible apply nd_next); (case hx => simp -dsimp [b1, b2]; first | done | with_reducible rfl); (case hid => simp -dsimp [b1, b2]; first | done | with_reducible rfl | exact ⟨rfl, rfl, rfl⟩ | exact ⟨rfl, rfl⟩); (case' h1 => intro _ _ _); (case' h0 => intro _))
                                                            | ((with_reducible apply nd_entry); (case hx => simp -dsimp [b1, b2]; first | done | with_reducible rfl); (case hid => simp -dsimp [b1, b2]; first | done | with_reducible rfl | exact ⟨rfl, rfl, rfl⟩ | exact ⟨rfl, rfl⟩))
                                                            | ((with_reducible apply nd_range); (case hx => simp -dsimp [b1, b2]; with_reducible rfl); (case hT => simp -dsimp [b1, b2]); (case hnd => assumption); (case hz => simp -dsimp [b1, b2]))
                                                            | (with_reducible refine dn_i follows_any (by kernel_rfl) ?_)
                                                            | (with_reducible exact done_eq rfl)
                                                            | (simp -dsimp [b1, b2]))); (all_goals try with_reducible refine done_eq ?_)
  refine ex_loop (fun i : Nat => ⟨[(3, .c (.gs 8 i)), (9, .c (.d (dGVs l))), (10, aI l.length), (11, aI i)], [(8, .arr i 26 ((l.map (gvD ∘ clean)).take i))]⟩) (fun i => i ≤ l.length) (fun i => l.length - i) 0 ?_ (Nat.zero_le _) ?_
  · exact Weak.same (by simp -dsimp) (by simp -dsimp) (by first | rfl | (simp [closedSt, Av.ids, Ow.ids, Cl.ids, Go.Smd.keys]; done))
  · rintro i hi K hK
    by_cases hlt : i < l.length
    · have hw : IntKind.wrap .i64 ((i : Int) + 1) = ((i + 1 : Nat) : Int) := by rw [wrap_i64] <;> omega
      have hb : (min i l.length + 1) * 88 ≤ 140737488351232 := by omega
      have h1 : (l.map (gvD ∘ clean)).take (i + 1) = (l.map (gvD ∘ clean)).take i ++ [gvD (clean l[i])] := by
        rw [List.take_succ_eq_append_getElem (by simpa using hlt)]
        simp
      (repeat' (first
                                                            | (with_reducible refine br_d (fun _ => ?_) (fun _ => ?_))
                                                            | (with_reducible refine br_i (fun _ => ?_) (fun _ => ?_))
                                                            | (with_reducible refine nd_v (clean_a _) (by first | rfl | (simp -dsimp [b1, hlt, hw, hb, toDs]; done)) ?_)
                                                            | (with_reducible refine nw_v (clean_a _) rfl (by first | rfl | (simp -dsimp [b1, hlt, hw, hb, toDs]; done)) (by first | rfl | (simp -dsimp [b1, hlt, hw, hb, toDs]; done)) ?_)
                                                            | ((with_reducible apply nd_next); (case hx => simp -dsimp [b1, hlt, hw, hb, toDs]; first | done | with_reducible rfl); (case hid => simp -dsimp [b1, hlt, hw, hb, toDs]; first | done | with_reducible rfl | exact ⟨rfl, rfl, rfl⟩ | exact ⟨rfl, rfl⟩); (case' h1 => intro _ _ _); (case' h0 => intro _))
                                                            | ((with_reducible apply nd_entry); (case hx => simp -dsimp [b1, hlt, hw, hb, toDs]; first | done | with_reducible rfl); (case hid => simp -dsimp [b1, hlt, hw, hb, toDs]; first | done | with_reducible rfl | exact ⟨rfl, rfl, rfl⟩ | exact ⟨rfl, rfl⟩))
                                                            | ((with_reducible apply nd_range); (case hx => simp -dsimp [b1, hlt, hw, hb, toDs]; with_reducible rfl); (case hT => simp -dsimp [b1, hlt, hw, hb, toDs]); (case hnd => assumption); (case hz => simp -dsimp [b1, hlt, hw, hb, toDs]))
                                                            | (with_reducible refine dn_i follows_any (by kernel_rfl) ?_)
                                                            | (with_reducible exact done_eq rfl)
                                                            | (simp -dsimp [b1, hlt, hw, hb, toDs]))); (all_goals try with_reducible refine done_eq ?_)
      refine hK _ (i + 1) ?_ (by omega) (by omega)
      rw [h1]
      exact Weak.same (by simp -dsimp) (by simp -dsimp) (by first | rfl | (simp [closedSt, Av.ids, Ow.ids, Cl.ids, Go.Smd.keys]; done))
    · (repeat' (first
                                                            | (with_reducible refine br_d (fun _ => ?_) (fun _ => ?_))
                                                            | (with_reducible refine br_i (fun _ => ?_) (fun _ => ?_))
                                                            | ((with_reducible apply nd_next); (case hx => simp -dsimp [hlt]; first | done | with_reducible rfl); (case hid => simp -dsimp [hlt]; first | done | with_reducible rfl | exact ⟨rfl, rfl, rfl⟩ | exact ⟨rfl, rfl⟩); (case' h1 => intro _ _ _); (case' h0 => intro _))
                                                            | ((with_reducible apply nd_entry); (case hx => simp -dsimp [hlt]; first | done | with_reducible rfl); (case hid => simp -dsimp [hlt]; first | done | with_reducible rfl | exact ⟨rfl, rfl, rfl⟩ | exact ⟨rfl, rfl⟩))
                                                            | ((with_reducible apply nd_range); (case hx => simp -dsimp [hlt]; with_reducible rfl); (case hT => simp -dsimp [hlt]); (case hnd => assumption); (case hz => simp -dsimp [hlt]))
                                                            | (with_reducible refine dn_i follows_any (by kernel_rfl) ?_)
                                                            | (with_reducible exact done_eq rfl)
                                                            | (simp -dsimp [hlt]))); (all_goals try with_reducible refine done_eq ?_)
      rw [List.take_of_length_le (by simp; omega)]
      show _ = Av.c (.d (.sl _ ((l.map clean).map gvD)))
      rw [List.map_map]
theorem zipF_eq (keys : List ByteArray) (l : List GV) : zipF keys l = (keys.zip l).map fun p => (p.1, treeOf p.2) := by
  unfold zipF
  rw [List.zip_map_right]
  rfl
structure FitsE (e : EV) : Prop where
  items : ∀ x ∈ e.l, Fits (treeOf x)
  val : Fits (treeOf e.v)
theorem FitsE.zip {e : EV} (h : FitsE e) : ∀ p ∈ e.keys.zip e.l, Fits (treeOf p.2) := fun p hp => h.items _ (List.of_mem_zip hp).2
theorem FitsE.le {e : EV} (h : FitsE e) : fitsLE (toLE e) := by
  unfold toLE
  split
  · simp only [fitsLE, zipF_eq]
    intro p hp
    obtain ⟨q, hq, rfl⟩ := List.mem_map.1 hp
    exact h.zip q hq
  · split
    · exact h.val
    · split <;> trivial
theorem ev_ok {e : EV} (h : okA Try.prog (evA e)) : e.keys.length * 16 ≤ 140737488351232 ∧ (∀ k ∈ e.keys, k.size ≤ 140737488351232) ∧ e.l.length * 88 ≤ 140737488351232 ∧ FitsE e := by
  have h2 : ∀ d ∈ evD e, okD Try.prog d := fun d hd => okA_agg h (.d d) (List.mem_map.2 ⟨d, hd, rfl⟩) d rfl
  have a1 := strs_ok (h2 (dStrs e.keys) (by simp [evD]))
  have a2 := gvs_ok (h2 (dGVs e.l) (by simp [evD]))
  refine ⟨a1.1, a1.2, a2.1, fun x hx => gv_fits (a2.2 x hx), gv_fits ?_⟩
  obtain ⟨w, S, v, us, rfl, ha⟩ := h
  have hv := ((cls_all2.1 ha).drop 4).take 6
  have e1 : ((evD e).drop 4).take 6 = gvD e.v := by
    show (gvD e.v ++ [dI e.n]).take 6 = _
    rw [List.take_append_of_le_length (by simp), gvD_take]
  rw [e1] at hv
  exact okA_of (fun d hd => h2 d (by simp [evD, hd])) w S ⟨_, hv⟩
end Go.Smd
end
