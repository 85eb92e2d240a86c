/- Part 14 of the proof: Clean With Spec. -/
import Derived.Test.YtannholebjdckaaGreatQS10
import Derived.Test.YtannholebjdckaaGreatQS08
set_option linter.unusedVariables false
section
namespace Go.Smd
open Go.RowKit Go.Proofs
set_option maxHeartbeats 1000000 in
theorem fieldIndex_c (kind n : Int) (f : Nat) (s : ByteArray) (keys : List ByteArray) (l : List GV) (key : ByteArray) (cs : List Value) (w : World) (S : Nat → Prop) (hv : RepGV S w (.mk kind n f s keys l) cs) (hsort : keys.Pairwise fun a b => blt a b = true) :
    Calls Tryz.prog 78 #[.agg cs.toArray, .string key] w (Makes (fun _ u => u = .tuple #[.int .i64 (lower key keys : Nat), .bool (decide (keys[lower key keys]? = some key))]) w) := by
  obtain ⟨ka, kc, la, lc, rfl, ok, hkc, hlc, hks, hls⟩ := hv.open
  have h1 := ok.okKeys
  obtain ⟨nk, hnk⟩ : ∃ n, keys.length = n := ⟨_, rfl⟩
  have Hk := Lib.hid hnk
  have HS := Lib.hid hsort
  rw [hnk] at h1 hkc ⊢
  have h2 := ok.okL
  clear hnk ok hsort
  go_enter Tryz.func78, Tryz.ntmps78
  go_wp2
  go_quiet (fail)
  go_wp2
  have hks0 := hks.ext (((Ext.refl w).alloc (.cells #[.int .i64 kind, .int .i64 n, .float .f64 f, .string s, .slice ka nk kc, .slice la l.length lc] 31)).drewN nq)
  go_loop [6, 7] (fun lo hi => ∃ a b : Nat, a ≤ b ∧ b ≤ nk ∧ lo = .int .i64 a ∧ hi = .int .i64 b ∧ Hid (∀ j q, j < a → keys[j]? = some q → blt q key = true) ∧ Hid (∀ j q, b ≤ j → keys[j]? = some q → blt q key = false)) (fun lo hi => (intOf hi - intOf lo).toNat)
  case atStart => exact ⟨0, nk, by omega, by omega, rfl, rfl, fun j q h => by omega, fun j q h h' => by have := (List.getElem?_eq_some_iff.1 h').1; rw [Hk.out] at this; omega⟩
  case round =>
    obtain ⟨a, b, hab, hbn, rfl, rfl, hlo, hhi⟩ := hrel
    by_cases hlt : a < b
    · obtain ⟨q, hq⟩ : ∃ q, keys[a + (b - a) / 2]? = some q := ⟨_, List.getElem?_eq_getElem (by rw [Hk.out]; omega)⟩
      obtain ⟨ad, rfl, hc⟩ := hks0.at hq
      have Hq := Lib.hid hq; clear hq
      have Hm := Lib.hid (Nat.div_le_self (b - a) 2)
      have Hm2 := Lib.hid (show (b - a) / 2 < b - a by omega)
      by_cases hbl : Op.bytesLess q.toList key.toList = true
      · have HB := Lib.hid hbl
        go_wp2
        go_round
        case rel =>
          refine ⟨a + (b - a) / 2 + 1, b, by have := Hm2.out; omega, hbn, by go_num, rfl, fun j p hj hp => ?_, hhi⟩
          by_cases hjj : j = a + (b - a) / 2
          · subst hjj; rw [Hq.out] at hp; cases hp; exact HB.out
          · rcases Nat.lt_or_ge j a with hja | hja
            · exact hlo.out j p hja hp
            · have hpw := List.pairwise_iff_getElem.1 HS.out j (a + (b - a) / 2) (List.getElem?_eq_some_iff.1 hp).1 (List.getElem?_eq_some_iff.1 Hq.out).1 (by omega)
              rw [(List.getElem?_eq_some_iff.1 hp).2, (List.getElem?_eq_some_iff.1 Hq.out).2] at hpw
              exact blt_trans hpw HB.out
        case measure => have := Hm2.out; simp [intOf]; omega
      · have hbl' : Op.bytesLess q.toList key.toList = false := by simpa using hbl
        have HB := Lib.hid hbl'
        clear hbl
        go_wp2
        go_round
        case rel =>
          refine ⟨a, a + (b - a) / 2, by omega, by have := Hm2.out; omega, rfl, by go_num, hlo, fun j p hj hp => ?_⟩
          by_cases hjj : j = a + (b - a) / 2
          · subst hjj; rw [Hq.out] at hp; cases hp; exact HB.out
          · have hpw := List.pairwise_iff_getElem.1 HS.out (a + (b - a) / 2) j (List.getElem?_eq_some_iff.1 Hq.out).1 (List.getElem?_eq_some_iff.1 hp).1 (by omega)
            rw [(List.getElem?_eq_some_iff.1 hp).2, (List.getElem?_eq_some_iff.1 Hq.out).2] at hpw
            cases hpk : blt p key with
            | false => rfl
            | true => exact absurd (blt_trans hpw hpk) (by have := HB.out; unfold blt; rw [this]; simp)
        case measure => have := Hm2.out; simp [intOf]; omega
    · obtain rfl : a = b := by omega
      have HL : Hid (lower key keys = a) := lower_of (by rw [Hk.out]; omega) (fun j q hj hq => hlo.out j q hj hq) fun q hq => hhi.out a q (Nat.le_refl _) hq
      have HF : ∀ (b : Bool) (W : World), b = decide (keys[a]? = some key) → Ext w W → Makes (fun _ u => u = .tuple #[.int .i64 (lower key keys : Nat), .bool (decide (keys[lower key keys]? = some key))]) w (.returned (.tuple #[.int .i64 a, .bool b])) W := fun b W hb hE => ⟨_, rfl, by rw [HL.out, hb], hE⟩
      have HF' := Lib.hid HF; clear HF
      have HE : ∀ m, Ext w (((w.alloc (.cells #[.int .i64 kind, .int .i64 n, .float .f64 f, .string s, .slice ka nk kc, .slice la l.length lc] 31)).drewN nq).drewN m) := fun m => (((Ext.refl w).alloc _).drewN nq).drewN m
      have HE' := Lib.hid HE; clear HE
      by_cases ha : a < nk
      · obtain ⟨q, hq⟩ : ∃ q, keys[a]? = some q := ⟨_, List.getElem?_eq_getElem (by rw [Hk.out]; omega)⟩
        obtain ⟨ad, rfl, hc⟩ := (hks.ext ((Ext.refl w).alloc (.cells #[.int .i64 kind, .int .i64 n, .float .f64 f, .string s, .slice ka nk kc, .slice la l.length lc] 31))).at hq
        have Hq := Lib.hid hq; clear hq
        have hda : decide ((a : Int) < (nk : Int)) = true := decide_eq_true (by omega)
        have hlt1 : (a : Int) < (nk : Int) := by omega
        have hlt0 : (0 : Int) ≤ (a : Int) := by omega
        go_wp2
        go_quiet (fail)
        go_wp2
        go_ret2
        refine HF'.out _ _ ?_ ?_
        · rw [Hq.out, beq_list]; simp
        · exact HE'.out _
      · have HN : Hid (keys[a]? = none) := List.getElem?_eq_none (by rw [Hk.out]; omega)
        have hda : decide ((a : Int) < (nk : Int)) = false := decide_eq_false (by omega)
        go_wp2
        go_quiet (fail)
        go_wp2
        go_ret2
        refine HF'.out _ _ ?_ ?_
        · rw [HN.out]; simp
        · exact HE'.out _
def mkMap (fs : List (ByteArray × GV)) : GV := .mk 6 0 0 ⟨#[]⟩ (fs.map (·.1)) (fs.map (·.2))
theorem grownBy_below {B : Nat} {a w w' : World} {row : Option Nat} (h : Below B a w) (hg : w.grownBy w' row) (hB : B ≤ w.heap.size) (hr : ∀ k, row = some k → B ≤ k) : Below B a w' := Below.grown h hg hB hr
structure OutSt (w : World) (T : Nat → Prop) (bo : Nat) (wr : World) (vk vl : Value) (ks : List ByteArray) (ls : List GV) : Prop where
  hbo : w.heap.size ≤ bo
  hT : ∀ b, T b → b < w.heap.size
  below : Below bo w wr
  lt : bo < wr.heap.size
  out : wr.heap[bo]? = some (.cells #[.int .i64 6, .int .i64 0, .float .f64 0, .string ⟨#[]⟩, vk, vl] 31 (0, 0))
  bk : Build RS 9 1 (bo < ·) T wr vk ks
  bl : Build RG 31 6 (bo < ·) T wr vl ls
theorem OutSt.ext {w : World} {T : Nat → Prop} {bo : Nat} {wr : World} {vk vl : Value} {ks : List ByteArray} {ls : List GV} (h : OutSt w T bo wr vk vl ks ls) : Ext w wr := h.below.mono h.hbo
theorem OutSt.drew {w : World} {T : Nat → Prop} {bo : Nat} {wr : World} {vk vl : Value} {ks : List ByteArray} {ls : List GV} (h : OutSt w T bo wr vk vl ks ls) : OutSt w T bo wr.drew vk vl ks ls :=
  ⟨h.hbo, h.hT, h.below.drew, h.lt, h.out, h.bk.ext framedRS ((Ext.refl wr).drew), h.bl.ext framedRG ((Ext.refl wr).drew)⟩
theorem OutSt.keysTo {w : World} {T : Nat → Prop} {bo : Nat} {wr w3 : World} {vk vl vk' : Value} {ks ks' : List ByteArray} {ls : List GV} (h : OutSt w T bo wr vk vl ks ls) (hB : Build RS 9 1 (bo < ·) T w3 vk' ks') (hg : wr.grownBy w3 vk.ownBlock) :
    w3.cell? ⟨bo, 4, none⟩ = some vk ∧ w3.frozen? ⟨bo, 4, none⟩ = false ∧ OutSt w T bo (w3.setCell ⟨bo, 4, none⟩ vk') vk' vl ks' ls := by
  have hne : some bo ≠ vk.ownBlock := fun hc => by have := h.bk.row_in hc.symm; omega
  have ho := (hg.block bo h.lt hne).trans h.out
  have hs := hg.size
  have hl := h.lt
  have hsame := setCell_same w3 bo 4 vk'
  refine ⟨cell_of ho rfl, by simp [World.frozen?, ho], ⟨h.hbo, h.hT, ?_, by simp [World.setCell]; omega, by rw [setCell_at vk' ho]; rfl, ?_, ?_⟩⟩
  · exact (grownBy_below h.below hg (by omega) fun k hk => by have := h.bk.row_in hk; omega).setCell (Nat.le_refl _) _
  · exact hB.frame framedRS (hsame.mono fun b hb => by omega) (hsame.mono fun b hb => by have := h.hT b hb.1; have := h.hbo; omega) (fun _ h => h) fun _ h => h
  · have := h.bl.other framedRG hg (h.bl.row_ne h.bk (by decide)) fun k hk hT => by have := h.bk.row_in hk; have := h.hT k hT; have := h.hbo; omega
    exact this.frame framedRG (hsame.mono fun b hb => by omega) (hsame.mono fun b hb => by have := h.hT b hb.1; have := h.hbo; omega) (fun _ h => h) fun _ h => h
theorem OutSt.listTo {w : World} {T : Nat → Prop} {bo : Nat} {wr w3 : World} {vk vl vl' : Value} {ks : List ByteArray} {ls ls' : List GV} (h : OutSt w T bo wr vk vl ks ls) (hB : Build RG 31 6 (bo < ·) T w3 vl' ls') (hg : wr.grownBy w3 vl.ownBlock) :
    w3.cell? ⟨bo, 5, none⟩ = some vl ∧ w3.frozen? ⟨bo, 5, none⟩ = false ∧ OutSt w T bo (w3.setCell ⟨bo, 5, none⟩ vl') vk vl' ks ls' := by
  have hne : some bo ≠ vl.ownBlock := fun hc => by have := h.bl.row_in hc.symm; omega
  have ho := (hg.block bo h.lt hne).trans h.out
  have hs := hg.size
  have hl := h.lt
  have hsame := setCell_same w3 bo 5 vl'
  refine ⟨cell_of ho rfl, by simp [World.frozen?, ho], ⟨h.hbo, h.hT, ?_, by simp [World.setCell]; omega, by rw [setCell_at vl' ho]; rfl, ?_, ?_⟩⟩
  · exact (grownBy_below h.below hg (by omega) fun k hk => by have := h.bl.row_in hk; omega).setCell (Nat.le_refl _) _
  · have := h.bk.other framedRS hg (h.bk.row_ne h.bl (by decide)) fun k hk hT => by have := h.bl.row_in hk; have := h.hT k hT; have := h.hbo; omega
    exact this.frame framedRS (hsame.mono fun b hb => by omega) (hsame.mono fun b hb => by have := h.hT b hb.1; have := h.hbo; omega) (fun _ h => h) fun _ h => h
  · exact hB.frame framedRG (hsame.mono fun b hb => by omega) (hsame.mono fun b hb => by have := h.hT b hb.1; have := h.hbo; omega) (fun _ h => h) fun _ h => h
theorem OutSt.appK {w : World} {T : Nat → Prop} {bo : Nat} {wr : World} {vk vl : Value} {ks : List ByteArray} {ls : List GV} (h : OutSt w T bo wr vk vl ks ls) {ys : List ByteArray} {A : Option Addr} {n c : Nat} {S : Nat → Prop} (hl : ys.length = n) (hr : RepStrs S wr A ys) {N : Nat} (hN : ks.length + n = N) (hn : N * 16 ≤ 140737488355328) :
    ∃ vk' w3, (Builtin.append_ #[28, 28] 28 #[vk, .slice A n c]).run Tryz.prog wr = .ok vk' w3 ∧ (∃ A' c', vk' = .slice A' N c') ∧ w3.cell? ⟨bo, 4, none⟩ = some vk ∧ w3.frozen? ⟨bo, 4, none⟩ = false ∧ OutSt w T bo (w3.setCell ⟨bo, 4, none⟩ vk') vk' vl (ks ++ ys) ls := by
  subst hN
  obtain ⟨vk', w3, hrun, hB, hg, _, hsl⟩ := Build.appRow (P := Tryz.prog) (t := 28) (ty := 28) framedRS Tryz.underlying28 info_str rfl (by omega) (by omega) h.bk (c := c) hl (RowOf.imp hr (Ext.refl _) fun _ _ _ k => k) (fun y cs hy u hu => by cases hy; simp at hu; subst hu; rfl) h.lt hn
  exact ⟨vk', w3, hrun, hsl, h.keysTo hB hg⟩
theorem OutSt.appL {w : World} {T : Nat → Prop} {bo : Nat} {wr : World} {vk vl : Value} {ks : List ByteArray} {ls : List GV} (h : OutSt w T bo wr vk vl ks ls) {ys : List GV} {A : Option Addr} {n c : Nat} (hl : ys.length = n) (hr : RepGVs T wr A ys) {N : Nat} (hN : ls.length + n = N) (hn : N * 88 ≤ 140737488355328) :
    ∃ vl' w3, (Builtin.append_ #[27, 27] 27 #[vl, .slice A n c]).run Tryz.prog wr = .ok vl' w3 ∧ (∃ A' c', vl' = .slice A' N c') ∧ w3.cell? ⟨bo, 5, none⟩ = some vl ∧ w3.frozen? ⟨bo, 5, none⟩ = false ∧ OutSt w T bo (w3.setCell ⟨bo, 5, none⟩ vl') vk vl' ks (ls ++ ys) := by
  subst hN
  obtain ⟨vl', w3, hrun, hB, hg, _, hsl⟩ := Build.appRow (P := Tryz.prog) (t := 27) (ty := 27) framedRG Tryz.underlying27 info_val rfl (by omega) (by omega) h.bl (c := c) hl (RowOf.imp hr (Ext.refl _) fun x _ cs k => RepGV.mono k fun b hb => ⟨hb, fun hc => by have := h.bl.row_in hc; have := h.hT b hb; have := h.hbo; omega⟩) (fun y cs hy => hy.ones) h.lt hn
  exact ⟨vl', w3, hrun, hsl, h.listTo hB hg⟩
theorem OutSt.pushK {w : World} {T : Nat → Prop} {bo : Nat} {wr : World} {vk vl : Value} {ks : List ByteArray} {ls : List GV} (h : OutSt w T bo wr vk vl ks ls) (k : ByteArray) {N : Nat} (hN : ks.length + 1 = N) (hn : N * 16 ≤ 140737488355328) :
    ∃ vk' w3, (Builtin.append_ #[28, 28] 28 #[vk, .slice (some ⟨wr.heap.size, 0, none⟩) 1 1]).run Tryz.prog (wr.alloc (.cells #[.string k] 9)) = .ok vk' w3 ∧ (∃ A' c', vk' = .slice A' N c') ∧ w3.cell? ⟨bo, 4, none⟩ = some vk ∧ w3.frozen? ⟨bo, 4, none⟩ = false ∧ OutSt w T bo (w3.setCell ⟨bo, 4, none⟩ vk') vk' vl (ks ++ [k]) ls := by
  subst hN
  obtain ⟨vk', w3, hrun, hB, hg, _, hsl⟩ := Build.push (P := Tryz.prog) (t := 28) (ty := 28) framedRS Tryz.underlying28 info_str rfl (by omega) (by omega) h.bk (y := k) (ys := [.string k]) rfl rfl (by simp [Value.oneCell']) (by have := h.lt; omega) hn
  exact ⟨vk', w3, hrun, hsl, h.keysTo hB hg⟩
theorem OutSt.pushL {w : World} {T : Nat → Prop} {bo : Nat} {wr : World} {vk vl : Value} {ks : List ByteArray} {ls : List GV} (h : OutSt w T bo wr vk vl ks ls) {v : GV} {cs : List Value} (hv : RepGV T wr v cs) {N : Nat} (hN : ls.length + 1 = N) (hn : N * 88 ≤ 140737488355328) :
    ∃ vl' w3, (Builtin.append_ #[27, 27] 27 #[vl, .slice (some ⟨wr.heap.size, 0, none⟩) 1 1]).run Tryz.prog (wr.alloc (.cells cs.toArray 31)) = .ok vl' w3 ∧ (∃ A' c', vl' = .slice A' N c') ∧ w3.cell? ⟨bo, 5, none⟩ = some vl ∧ w3.frozen? ⟨bo, 5, none⟩ = false ∧ OutSt w T bo (w3.setCell ⟨bo, 5, none⟩ vl') vk vl' ks (ls ++ [v]) := by
  subst hN
  obtain ⟨vl', w3, hrun, hB, hg, _, hsl⟩ := Build.push (P := Tryz.prog) (t := 27) (ty := 27) framedRG Tryz.underlying27 info_val rfl (by omega) (by omega) h.bl (y := v) (ys := cs) (RepGV.mono hv fun b hb => ⟨hb, fun hc => by have := h.bl.row_in hc; have := h.hT b hb; have := h.hbo; omega⟩) hv.length hv.ones (by have := h.lt; omega) hn
  exact ⟨vl', w3, hrun, hsl, h.listTo hB hg⟩
theorem OutSt.done {w : World} {T : Nat → Prop} {bo : Nat} {wr : World} {vk vl : Value} {ks : List ByteArray} {ls : List GV} (h : OutSt w T bo wr vk vl ks ls) (ok : GVok 6 0 0 ⟨#[]⟩ ks ls) :
    RepGV (fun b => T b ∨ w.heap.size ≤ b) wr (.mk 6 0 0 ⟨#[]⟩ ks ls) [.int .i64 6, .int .i64 0, .float .f64 0, .string ⟨#[]⟩, vk, vl] := by
  obtain ⟨ka, kc, rfl, hkc, hk⟩ := h.bk.done framedRS (by omega)
  obtain ⟨la, lc, rfl, hlc, hl⟩ := h.bl.done framedRG (by omega)
  have hbo := h.hbo
  refine RepGV.close ok hkc hlc (RowOf.frame hk (fun _ _ => rfl) (fun b hb => .inr (by omega)) fun _ _ _ k => k) ?_
  exact RowOf.frame hl (fun _ _ => rfl) (fun b hb => .inr (by omega)) fun _ _ _ k => RepGV.mono k fun b hb => .inl hb
end Go.Smd
end
section
set_option linter.unusedSimpArgs false
namespace Go.Smd
open Go.RowKit Go.Proofs
set_option maxRecDepth 100000 in
set_option maxHeartbeats 4000000 in
theorem withField_c (kind n : Int) (f : Nat) (s : ByteArray) (fs : List (ByteArray × GV)) (key : ByteArray) (v : GV) (cs cv : List Value) (w : World) (S : Nat → Prop)
    (hm : RepGV S w (.mk kind n f s (fs.map (·.1)) (fs.map (·.2))) cs) (hv : RepGV S w v cv) (hsort : Sorted fs) (hroom : (fs.length + 1) * 88 ≤ 140737488351232) (hkey : key.size ≤ 140737488351232) :
    Calls Tryz.prog 27 #[.agg cs.toArray, .string key, .agg cv.toArray] w (Makes (fun W u => ∃ cs', u = .agg cs'.toArray ∧ RepGV (fun b => S b ∨ w.heap.size ≤ b) W (mkMap (sIns key v fs)) cs') w) := by
  have hm0 := hm.lt
  have hv0 := hv.lt
  obtain ⟨ka, kc, la, lc, rfl, ok, hkc, hlc, hks, hls⟩ := hm0.open
  have hm1 := Lib.hid hm
  obtain ⟨d0, d1, d2, d3, d4, d5, rfl⟩ : ∃ d0 d1 d2 d3 d4 d5, cv = [d0, d1, d2, d3, d4, d5] := by
    match cv, hv.length with
    | [d0, d1, d2, d3, d4, d5], _ => exact ⟨d0, d1, d2, d3, d4, d5, rfl⟩
  obtain ⟨o0, o1, o2, o3, o4, o5⟩ := hv.six
  obtain ⟨m, hmdef⟩ : ∃ m, lower key (fs.map (·.1)) = m := ⟨_, rfl⟩
  have hml := lower_le key (fs.map (·.1))
  rw [hmdef] at hml
  obtain ⟨nk, hnk⟩ : ∃ n, fs.length = n := ⟨_, rfl⟩
  simp only [List.length_map, hnk] at hml hkc hlc hroom ⊢
  obtain ⟨ok', hokd⟩ : ∃ b : Bool, decide ((fs.map (·.1))[m]? = some key) = b := ⟨_, rfl⟩
  have HFS : Hid (∀ ks ls, fs.map (·.1) = ks → fs.map (·.2) = ls → ks = fs.map (·.1) ∧ ls = fs.map (·.2)) := fun ks ls h1 h2 => ⟨h1.symm, h2.symm⟩
  have HS := Lib.hid hsort
  have hkl : (fs.map (·.1)).length = nk := by simp [hnk]
  have hll : (fs.map (·.2)).length = nk := by simp [hnk]
  have hsort' : (fs.map (·.1)).Pairwise fun a b => blt a b = true := hsort
  clear hsort
  generalize hK : fs.map (·.1) = ks at *
  generalize hL : fs.map (·.2) = ls at *
  have HK := Lib.hid hK; have HL := Lib.hid hL; have Hkl := Lib.hid hkl; have Hll := Lib.hid hll; have HSo := Lib.hid hsort'
  have Hm := Lib.hid hmdef; have Hn := Lib.hid hnk; have Ho := Lib.hid hokd
  have Hok := Lib.hid ok
  clear hm hv hmdef hnk hokd ok hK hL hkl hll hsort' HFS
  go_enter Tryz.func27, Tryz.ntmps27
  go_wp2_with fail
  have hE0 : Ext w (((w.alloc (.cells #[.int .i64 kind, .int .i64 n, .float .f64 f, .string s, .slice ka nk kc, .slice la nk lc] 31)).alloc (.cells #[d0, d1, d2, d3, d4, d5] 31)).alloc (.cells #[.int .i64 0, .int .i64 0, .float .f64 0, .string ⟨#[]⟩, .slice none 0 0, .slice none 0 0] 31)) := (((Ext.refl w).alloc _).alloc _).alloc _
  have hb0 := old_at (.cells #[.int .i64 0, .int .i64 0, .float .f64 0, .string ⟨#[]⟩, .slice none 0 0, .slice none 0 0] 31) (old_at (.cells #[d0, d1, d2, d3, d4, d5] 31) (new_at (w := w) (.cells #[.int .i64 kind, .int .i64 n, .float .f64 f, .string s, .slice ka nk kc, .slice la nk lc] 31) rfl))
  have hb1 := old_at (.cells #[.int .i64 0, .int .i64 0, .float .f64 0, .string ⟨#[]⟩, .slice none 0 0, .slice none 0 0] 31) (new_at (w := w.alloc (.cells #[.int .i64 kind, .int .i64 n, .float .f64 f, .string s, .slice ka nk kc, .slice la nk lc] 31)) (.cells #[d0, d1, d2, d3, d4, d5] 31) (size_alloc w _))
  have hb2 := new_at (w := (w.alloc (.cells #[.int .i64 kind, .int .i64 n, .float .f64 f, .string s, .slice ka nk kc, .slice la nk lc] 31)).alloc (.cells #[d0, d1, d2, d3, d4, d5] 31)) (.cells #[.int .i64 0, .int .i64 0, .float .f64 0, .string ⟨#[]⟩, .slice none 0 0, .slice none 0 0] 31) (by rw [size_alloc, size_alloc])
  refine (fieldIndex_c kind n f s ks ls key [.int .i64 kind, .int .i64 n, .float .f64 f, .string s, .slice ka nk kc, .slice la nk lc] _ _ (by have := hm1.out.ext hE0; rw [Hkl.out, Hll.out] at this; exact this) HSo.out).mono ?_
  rintro e w1 ⟨u, rfl, hu, hE1⟩
  rw [Hm.out, Ho.out] at hu
  subst hu
  have hE1' := hE0.trans hE1
  have hb0' := hE1.heap hb0; have hb1' := hE1.heap hb1; have hb2' := hE1.heap hb2
  clear hE0 hb0 hb1 hb2 hE1
  go_wp2
  have HO : OutSt w1 (fun b => S b ∧ b < w.heap.size) w1.heap.size (w1.alloc (.cells #[.int .i64 6, .int .i64 0, .float .f64 0, .string ⟨#[]⟩, .slice none 0 0, .slice none 0 0] 31)) (.slice none 0 0) (.slice none 0 0) [] [] :=
    ⟨Nat.le_refl _, fun b hb => by have := hE1'.size; omega, (Ext.refl w1).alloc _, by rw [size_alloc]; omega, new_at _ rfl, Build.nil, Build.nil⟩
  have Hsz := Lib.hid hE1'.size
  generalize hbo : w1.heap.size = bo at HO Hsz ⊢
  generalize w1.alloc (.cells #[.int .i64 6, .int .i64 0, .float .f64 0, .string ⟨#[]⟩, .slice none 0 0, .slice none 0 0] 31) = w2 at HO ⊢
  have Hbo := Lib.hid hbo; clear hbo
  have Hb0 := Lib.hid hb0'; have Hb1 := Lib.hid hb1'; have Hb2 := Lib.hid hb2'; have HE1 := Lib.hid hE1'
  clear hb0' hb1' hb2' hE1'
  have HO1 := Lib.hid HO; clear HO
  have hml1 : (m : Int) ≤ (kc : Int) := by omega
  have hml2 : (m : Int) ≤ (lc : Int) := by omega
  have hml0 : (0 : Int) ≤ (m : Int) := by omega
  have Hks := Lib.hid hks; have Hls := Lib.hid hls; have Hv := Lib.hid hv0
  clear hks hls hv0
  have ck := cell_of HO1.out.out (i := 4) rfl
  have c4 := HO1.out.ext.cell (cell_of Hb0.out (i := 4) rfl)
  refine wp_region_E [6, 8] (by kernel_rfl) ?_
  refine E_takes (listed' := lst 9 [0, 1, 2, 3, 4, 5]) [0, 1, 2, 3, 4, 5] 3 (by kernel_rfl) (fun _ _ _ _ h => h) (by kernel_rfl) rfl (by kernel_rfl) ?_
  repeat (refine qIdx_step rfl ?_; go_big_quiet_step (fail); refine wpQuiet_nil ?_)
  refine qIdx_nil ?_
  obtain ⟨_, w3, hrun, ⟨A1, c1, rfl⟩, hc, hfz, HO⟩ := HO1.out.drew.appK (A := ka) (n := m) (c := kc) (N := m) (ys := ks.take m) (by simp [Hkl.out]; omega) (((RowOf.take ((Hks.out.ext HE1.out).ext HO1.out.drew.ext) m : RepStrs (fun b => S b ∧ b < w.heap.size) _ _ _))) (by simp only [List.length_append, List.length_nil, List.length_take, List.length_drop, List.length_singleton, Hkl.out, Hll.out]; omega) (by omega)
  have HR := Lib.hid hrun; have HO2 := Lib.hid HO; clear hrun HO ck c4
  refine E_bar (n := 2) (i := 6) (listed' := lst 9 [0, 1, 2, 3, 4, 5, 6]) (by kernel_rfl) rfl rfl rfl (by kernel_rfl) ?_
  refine wpList_append_run HR.out rfl rfl rfl rfl ?_
  refine E_end ?_
  simp only [Act.put, List.setIfInBounds_toArray, List.set_cons_zero, List.set_cons_succ]
  refine E_takes (listed' := lst 9 [0, 1, 2, 3, 4, 5, 6, 7]) [7] 1 (by kernel_rfl) (fun _ _ _ _ h => h) (by kernel_rfl) rfl (by kernel_rfl) ?_
  repeat (refine qIdx_step rfl ?_; go_big_quiet_step (fail); refine wpQuiet_nil ?_)
  refine qIdx_nil ?_
  refine E_bar (n := 0) (i := 8) (listed' := lst 9 [0, 1, 2, 3, 4, 5, 6, 7, 8]) (by kernel_rfl) rfl rfl rfl (by kernel_rfl) ?_
  go_wp2
  refine E_done (by kernel_rfl) ?_
  clear hc hfz HR
  generalize w3.setCell ⟨bo, 4, none⟩ (Value.slice A1 m c1) = w3' at HO2 ⊢
  go_wp2
  have ck := cell_of HO2.out.out (i := 5) rfl
  have c4 := HO2.out.ext.cell (cell_of Hb0.out (i := 5) rfl)
  refine wp_region_E [6, 8] (by kernel_rfl) ?_
  refine E_takes (listed' := lst 9 [0, 1, 2, 3, 4, 5]) [0, 1, 2, 3, 4, 5] 3 (by kernel_rfl) (fun _ _ _ _ h => h) (by kernel_rfl) rfl (by kernel_rfl) ?_
  repeat (refine qIdx_step rfl ?_; go_big_quiet_step (fail); refine wpQuiet_nil ?_)
  refine qIdx_nil ?_
  obtain ⟨_, w4, hrun, ⟨A2, c2, rfl⟩, hc, hfz, HO⟩ := HO2.out.drew.appL (A := la) (n := m) (c := lc) (N := m) (ys := ls.take m) (by simp [Hll.out]; omega) (((RowOf.take ((Hls.out.ext HE1.out).ext HO2.out.drew.ext) m : RepGVs (fun b => S b ∧ b < w.heap.size) _ _ _))) (by simp only [List.length_append, List.length_nil, List.length_take, List.length_drop, List.length_singleton, Hkl.out, Hll.out]; omega) (by omega)
  have HR := Lib.hid hrun; have HO3 := Lib.hid HO; clear hrun HO ck c4
  refine E_bar (n := 2) (i := 6) (listed' := lst 9 [0, 1, 2, 3, 4, 5, 6]) (by kernel_rfl) rfl rfl rfl (by kernel_rfl) ?_
  refine wpList_append_run HR.out rfl rfl rfl rfl ?_
  refine E_end ?_
  simp only [Act.put, List.setIfInBounds_toArray, List.set_cons_zero, List.set_cons_succ]
  refine E_takes (listed' := lst 9 [0, 1, 2, 3, 4, 5, 6, 7]) [7] 1 (by kernel_rfl) (fun _ _ _ _ h => h) (by kernel_rfl) rfl (by kernel_rfl) ?_
  repeat (refine qIdx_step rfl ?_; go_big_quiet_step (fail); refine wpQuiet_nil ?_)
  refine qIdx_nil ?_
  refine E_bar (n := 0) (i := 8) (listed' := lst 9 [0, 1, 2, 3, 4, 5, 6, 7, 8]) (by kernel_rfl) rfl rfl rfl (by kernel_rfl) ?_
  go_wp2
  refine E_done (by kernel_rfl) ?_
  clear hc hfz HR
  generalize w4.setCell ⟨bo, 5, none⟩ (Value.slice A2 m c2) = w4' at HO3 ⊢
  have ck := cell_of HO3.out.out (i := 4) rfl
  obtain ⟨_, w5, hrun, ⟨A3, c3, rfl⟩, hc, hfz, HO⟩ := HO3.out.pushK key (N := m + 1) (by simp [Hkl.out]; omega) (by omega)
  have HR := Lib.hid hrun; have HO4 := Lib.hid HO; clear hrun HO
  go_upto_region 6 with (at_builtin; refine wpList_append_run HR.out rfl rfl rfl rfl ?_)
  clear HR hc hfz ck
  generalize w5.setCell ⟨bo, 4, none⟩ (Value.slice A3 (m + 1) c3) = w5' at HO4 ⊢
  have hd := fun i (v : Value) (hi : #[d0, d1, d2, d3, d4, d5][i]? = some v) => HO4.out.ext.cell (cell_of Hb1.out hi)
  have hd0 := hd 0 d0 rfl; have hd1 := hd 1 d1 rfl; have hd2 := hd 2 d2 rfl; have hd3 := hd 3 d3 rfl; have hd4 := hd 4 d4 rfl; have hd5 := hd 5 d5 rfl
  clear hd
  have cl := cell_of HO4.out.out (i := 5) rfl
  obtain ⟨_, w6, hrun, ⟨A4, c4, rfl⟩, hc, hfz, HO⟩ := HO4.out.pushL ((Hv.out.ext HE1.out).ext HO4.out.ext) (N := m + 1) (by simp [Hll.out]; omega) (by omega)
  have HR := Lib.hid hrun; have HO5 := Lib.hid HO; clear hrun HO
  go_upto_region 7 with (at_builtin; refine wpList_append_run HR.out rfl rfl rfl rfl ?_)
  clear HR hc hfz cl hd0 hd1 hd2 hd3 hd4 hd5
  generalize w6.setCell ⟨bo, 5, none⟩ (Value.slice A4 (m + 1) c4) = w6' at HO5 ⊢
  cases ok' with
  | true =>
    have hlt : m < nk := by have := of_decide_eq_true Ho.out; have := (List.getElem?_eq_some_iff.1 this).1; rw [Hkl.out] at this; exact this
    obtain ⟨A5, hcut, hA5⟩ := slice_from (P := Tryz.prog) 28 9 (size := 1) Tryz.underlying28 (by kernel_rfl) ka nk kc (m + 1) ((m : Int) + 1) (by omega) (by omega)
    obtain ⟨A6, hcut2, hA6⟩ := slice_from (P := Tryz.prog) 27 31 (size := 6) Tryz.underlying27 (by kernel_rfl) la nk lc (m + 1) ((m : Int) + 1) (by omega) (by omega)
    have HA5 : Hid (∀ W, RowOf RStr 1 (fun b => S b ∧ b < w.heap.size) W ka ks → RowOf RStr 1 (fun b => S b ∧ b < w.heap.size) W A5 (ks.drop (m + 1))) := fun W h => hA5 (by rw [Hkl.out]; omega) h
    have HA6 : Hid (∀ W, RepGVs (fun b => S b ∧ b < w.heap.size) W la ls → RepGVs (fun b => S b ∧ b < w.heap.size) W A6 (ls.drop (m + 1))) := fun W h => hA6 (by rw [Hll.out]; omega) h
    clear hA5 hA6
    go_wp2
    have ck := cell_of HO5.out.out (i := 4) rfl
    have c4 := HO5.out.ext.cell (cell_of Hb0.out (i := 4) rfl)
    refine wp_region_E [6, 8] (by kernel_rfl) ?_
    refine E_takes (listed' := lst 9 [0, 1, 2, 3, 4, 5]) [0, 1, 2, 3, 4, 5] 3 (by kernel_rfl) (fun _ _ _ _ h => h) (by kernel_rfl) rfl (by kernel_rfl) ?_
    repeat (refine qIdx_step rfl ?_; go_big_quiet_step (fail); refine wpQuiet_nil ?_)
    refine qIdx_nil ?_
    obtain ⟨_, w7, hrun, ⟨A7, c7, rfl⟩, hc, hfz, HO⟩ := HO5.out.drew.appK (A := A5) (n := nk - (m + 1)) (c := kc - (m + 1)) (N := m + 1 + (nk - (m + 1))) (ys := ks.drop (m + 1)) (by simp [Hkl.out]) ((HA5.out _ ((Hks.out.ext HE1.out).ext HO5.out.drew.ext))) (by simp only [List.length_append, List.length_nil, List.length_take, List.length_drop, List.length_singleton, Hkl.out, Hll.out]; omega) (by omega)
    have HR := Lib.hid hrun; have HO6 := Lib.hid HO; clear hrun HO ck c4
    refine E_bar (n := 2) (i := 6) (listed' := lst 9 [0, 1, 2, 3, 4, 5, 6]) (by kernel_rfl) rfl rfl rfl (by kernel_rfl) ?_
    refine wpList_append_run HR.out rfl rfl rfl rfl ?_
    refine E_end ?_
    simp only [Act.put, List.setIfInBounds_toArray, List.set_cons_zero, List.set_cons_succ]
    refine E_takes (listed' := lst 9 [0, 1, 2, 3, 4, 5, 6, 7]) [7] 1 (by kernel_rfl) (fun _ _ _ _ h => h) (by kernel_rfl) rfl (by kernel_rfl) ?_
    repeat (refine qIdx_step rfl ?_; go_big_quiet_step (fail); refine wpQuiet_nil ?_)
    refine qIdx_nil ?_
    refine E_bar (n := 0) (i := 8) (listed' := lst 9 [0, 1, 2, 3, 4, 5, 6, 7, 8]) (by kernel_rfl) rfl rfl rfl (by kernel_rfl) ?_
    go_wp2
    refine E_done (by kernel_rfl) ?_
    clear hc hfz HR
    generalize w7.setCell ⟨bo, 4, none⟩ (Value.slice A7 _ c7) = w7' at HO6 ⊢
    go_wp2
    have ck := cell_of HO6.out.out (i := 5) rfl
    have c4 := HO6.out.ext.cell (cell_of Hb0.out (i := 5) rfl)
    refine wp_region_E [6, 8] (by kernel_rfl) ?_
    refine E_takes (listed' := lst 9 [0, 1, 2, 3, 4, 5]) [0, 1, 2, 3, 4, 5] 3 (by kernel_rfl) (fun _ _ _ _ h => h) (by kernel_rfl) rfl (by kernel_rfl) ?_
    repeat (refine qIdx_step rfl ?_; go_big_quiet_step (fail); refine wpQuiet_nil ?_)
    refine qIdx_nil ?_
    obtain ⟨_, w8, hrun, ⟨A8, c8, rfl⟩, hc, hfz, HO⟩ := HO6.out.drew.appL (A := A6) (n := nk - (m + 1)) (c := lc - (m + 1)) (N := m + 1 + (nk - (m + 1))) (ys := ls.drop (m + 1)) (by simp [Hll.out]) ((HA6.out _ ((Hls.out.ext HE1.out).ext HO6.out.drew.ext))) (by simp only [List.length_append, List.length_nil, List.length_take, List.length_drop, List.length_singleton, Hkl.out, Hll.out]; omega) (by omega)
    have HR := Lib.hid hrun; have HO7 := Lib.hid HO; clear hrun HO ck c4
    refine E_bar (n := 2) (i := 6) (listed' := lst 9 [0, 1, 2, 3, 4, 5, 6]) (by kernel_rfl) rfl rfl rfl (by kernel_rfl) ?_
    refine wpList_append_run HR.out rfl rfl rfl rfl ?_
    refine E_end ?_
    simp only [Act.put, List.setIfInBounds_toArray, List.set_cons_zero, List.set_cons_succ]
    refine E_takes (listed' := lst 9 [0, 1, 2, 3, 4, 5, 6, 7]) [7] 1 (by kernel_rfl) (fun _ _ _ _ h => h) (by kernel_rfl) rfl (by kernel_rfl) ?_
    repeat (refine qIdx_step rfl ?_; go_big_quiet_step (fail); refine wpQuiet_nil ?_)
    refine qIdx_nil ?_
    refine E_bar (n := 0) (i := 8) (listed' := lst 9 [0, 1, 2, 3, 4, 5, 6, 7, 8]) (by kernel_rfl) rfl rfl rfl (by kernel_rfl) ?_
    go_wp2
    refine E_done (by kernel_rfl) ?_
    clear hc hfz HR
    generalize w8.setCell ⟨bo, 5, none⟩ (Value.slice A8 _ c8) = w8' at HO7 ⊢
    have e0 := cell_of HO7.out.out (i := 0) rfl
    have e1 := cell_of HO7.out.out (i := 1) rfl
    have e2 := cell_of HO7.out.out (i := 2) rfl
    have e3 := cell_of HO7.out.out (i := 3) rfl
    have e4 := cell_of HO7.out.out (i := 4) rfl
    have e5 := cell_of HO7.out.out (i := 5) rfl
    have hq := fun i (v : Value) (hi : #[Value.int .i64 0, .int .i64 0, .float .f64 0, .string ⟨#[]⟩, .slice none 0 0, .slice none 0 0][i]? = some v) => HO7.out.ext.cell (cell_of Hb2.out hi)
    have q0 := hq 0 _ rfl; have q1 := hq 1 _ rfl; have q2 := hq 2 _ rfl; have q3 := hq 3 _ rfl; have q4 := hq 4 _ rfl; have q5 := hq 5 _ rfl
    have hz : ∀ o, w8'.frozen? ⟨w.heap.size + 1 + 1, o, none⟩ = false := fun o => by simp [World.frozen?, HO7.out.ext.heap Hb2.out]
    clear hq
    go_wp2
    have HE9 : Hid (Ext w (six w8' (w.heap.size + 1 + 1) (.int .i64 6) (.int .i64 0) (.float .f64 0) (.string ⟨#[]⟩) (.slice A7 (m + 1 + (nk - (m + 1))) c7) (.slice A8 (m + 1 + (nk - (m + 1))) c8))) := six_ext (HE1.out.trans HO7.out.ext) (by omega) _ _ _ _ _ _
    have HV9 : Hid (RepGV (fun b => S b ∨ w.heap.size ≤ b) (six w8' (w.heap.size + 1 + 1) (.int .i64 6) (.int .i64 0) (.float .f64 0) (.string ⟨#[]⟩) (.slice A7 (m + 1 + (nk - (m + 1))) c7) (.slice A8 (m + 1 + (nk - (m + 1))) c8)) (mkMap (sIns key v fs)) [.int .i64 6, .int .i64 0, .float .f64 0, .string ⟨#[]⟩, .slice A7 (m + 1 + (nk - (m + 1))) c7, .slice A8 (m + 1 + (nk - (m + 1))) c8]) := by
      have hks : (sIns key v fs).map (·.1) = [] ++ ks.take m ++ [key] ++ ks.drop (m + 1) := by
        rw [sIns_split, HK.out, Hm.out, if_pos (by simpa using Ho.out)]; rw [← HK.out]; simp [List.map_take, List.map_drop]
      have hls : (sIns key v fs).map (·.2) = [] ++ ls.take m ++ [v] ++ ls.drop (m + 1) := by
        rw [sIns_split, HK.out, Hm.out, if_pos (by simpa using Ho.out)]; rw [← HL.out]; simp [List.map_take, List.map_drop]
      have hlen : (sIns key v fs).length ≤ nk + 1 := by have := sIns_length key v fs; rw [Hn.out] at this; exact this
      have hd := HO7.out.done (by
        rw [← hks, ← hls]
        refine ⟨by omega, by omega, by omega, Nat.zero_le _, by rw [List.length_map]; omega, fun k hk => ?_, by rw [List.length_map]; omega⟩
        rw [hks] at hk
        rcases List.mem_append.1 hk with hk | hk
        · rcases List.mem_append.1 hk with hk | hk
          · exact Hok.out.okEach k (List.mem_of_mem_take (by simpa using hk))
          · simp at hk; rw [hk]; exact hkey
        · exact Hok.out.okEach k (List.mem_of_mem_drop hk))
      rw [← hks, ← hls] at hd
      have hsz := HE1.out.size
      have hb2 := (Array.getElem?_eq_some_iff.1 Hb2.out).1
      have hbo := Hbo.out
      refine RepGV.frame (S' := fun b => S b ∨ w.heap.size ≤ b) ((six_same w8' (w.heap.size + 1 + 1) _ _ _ _ _ _).mono fun b hb => ?_) (fun b hb => ?_) hd
      · rcases hb with hb | hb <;> omega
      · rcases hb with hb | hb
        · exact .inl hb.1
        · exact .inr (by omega)
    clear HO7
    refine bodyPost_ret (v := .agg #[.int .i64 6, .int .i64 0, .float .f64 0, .string ⟨#[]⟩, .slice A7 (m + 1 + (nk - (m + 1))) c7, .slice A8 (m + 1 + (nk - (m + 1))) c8]) (by simp [results, Tryz.results27, go_sem, q0, q1, q2, q3, q4, q5]) rfl ?_
    exact ⟨_, rfl, ⟨_, rfl, HV9.out⟩, HE9.out⟩
  | false =>
    have hlt : m ≤ nk := hml
    obtain ⟨A5, hcut, hA5⟩ := slice_from (P := Tryz.prog) 28 9 (size := 1) Tryz.underlying28 (by kernel_rfl) ka nk kc (m) ((m : Int)) (by omega) (by omega)
    obtain ⟨A6, hcut2, hA6⟩ := slice_from (P := Tryz.prog) 27 31 (size := 6) Tryz.underlying27 (by kernel_rfl) la nk lc (m) ((m : Int)) (by omega) (by omega)
    have HA5 : Hid (∀ W, RowOf RStr 1 (fun b => S b ∧ b < w.heap.size) W ka ks → RowOf RStr 1 (fun b => S b ∧ b < w.heap.size) W A5 (ks.drop (m))) := fun W h => hA5 (by rw [Hkl.out]; omega) h
    have HA6 : Hid (∀ W, RepGVs (fun b => S b ∧ b < w.heap.size) W la ls → RepGVs (fun b => S b ∧ b < w.heap.size) W A6 (ls.drop (m))) := fun W h => hA6 (by rw [Hll.out]; omega) h
    clear hA5 hA6
    go_wp2
    have ck := cell_of HO5.out.out (i := 4) rfl
    have c4 := HO5.out.ext.cell (cell_of Hb0.out (i := 4) rfl)
    refine wp_region_E [6, 8] (by kernel_rfl) ?_
    refine E_takes (listed' := lst 9 [0, 1, 2, 3, 4, 5]) [0, 1, 2, 3, 4, 5] 3 (by kernel_rfl) (fun _ _ _ _ h => h) (by kernel_rfl) rfl (by kernel_rfl) ?_
    repeat (refine qIdx_step rfl ?_; go_big_quiet_step (fail); refine wpQuiet_nil ?_)
    refine qIdx_nil ?_
    obtain ⟨_, w7, hrun, ⟨A7, c7, rfl⟩, hc, hfz, HO⟩ := HO5.out.drew.appK (A := A5) (n := nk - (m)) (c := kc - (m)) (N := m + 1 + (nk - (m))) (ys := ks.drop (m)) (by simp [Hkl.out]) ((HA5.out _ ((Hks.out.ext HE1.out).ext HO5.out.drew.ext))) (by simp only [List.length_append, List.length_nil, List.length_take, List.length_drop, List.length_singleton, Hkl.out, Hll.out]; omega) (by omega)
    have HR := Lib.hid hrun; have HO6 := Lib.hid HO; clear hrun HO ck c4
    refine E_bar (n := 2) (i := 6) (listed' := lst 9 [0, 1, 2, 3, 4, 5, 6]) (by kernel_rfl) rfl rfl rfl (by kernel_rfl) ?_
    refine wpList_append_run HR.out rfl rfl rfl rfl ?_
    refine E_end ?_
    simp only [Act.put, List.setIfInBounds_toArray, List.set_cons_zero, List.set_cons_succ]
    refine E_takes (listed' := lst 9 [0, 1, 2, 3, 4, 5, 6, 7]) [7] 1 (by kernel_rfl) (fun _ _ _ _ h => h) (by kernel_rfl) rfl (by kernel_rfl) ?_
    repeat (refine qIdx_step rfl ?_; go_big_quiet_step (fail); refine wpQuiet_nil ?_)
    refine qIdx_nil ?_
    refine E_bar (n := 0) (i := 8) (listed' := lst 9 [0, 1, 2, 3, 4, 5, 6, 7, 8]) (by kernel_rfl) rfl rfl rfl (by kernel_rfl) ?_
    go_wp2
    refine E_done (by kernel_rfl) ?_
    clear hc hfz HR
    generalize w7.setCell ⟨bo, 4, none⟩ (Value.slice A7 _ c7) = w7' at HO6 ⊢
    go_wp2
    have ck := cell_of HO6.out.out (i := 5) rfl
    have c4 := HO6.out.ext.cell (cell_of Hb0.out (i := 5) rfl)
    refine wp_region_E [6, 8] (by kernel_rfl) ?_
    refine E_takes (listed' := lst 9 [0, 1, 2, 3, 4, 5]) [0, 1, 2, 3, 4, 5] 3 (by kernel_rfl) (fun _ _ _ _ h => h) (by kernel_rfl) rfl (by kernel_rfl) ?_
    repeat (refine qIdx_step rfl ?_; go_big_quiet_step (fail); refine wpQuiet_nil ?_)
    refine qIdx_nil ?_
    obtain ⟨_, w8, hrun, ⟨A8, c8, rfl⟩, hc, hfz, HO⟩ := HO6.out.drew.appL (A := A6) (n := nk - (m)) (c := lc - (m)) (N := m + 1 + (nk - (m))) (ys := ls.drop (m)) (by simp [Hll.out]) ((HA6.out _ ((Hls.out.ext HE1.out).ext HO6.out.drew.ext))) (by simp only [List.length_append, List.length_nil, List.length_take, List.length_drop, List.length_singleton, Hkl.out, Hll.out]; omega) (by omega)
    have HR := Lib.hid hrun; have HO7 := Lib.hid HO; clear hrun HO ck c4
    refine E_bar (n := 2) (i := 6) (listed' := lst 9 [0, 1, 2, 3, 4, 5, 6]) (by kernel_rfl) rfl rfl rfl (by kernel_rfl) ?_
    refine wpList_append_run HR.out rfl rfl rfl rfl ?_
    refine E_end ?_
    simp only [Act.put, List.setIfInBounds_toArray, List.set_cons_zero, List.set_cons_succ]
    refine E_takes (listed' := lst 9 [0, 1, 2, 3, 4, 5, 6, 7]) [7] 1 (by kernel_rfl) (fun _ _ _ _ h => h) (by kernel_rfl) rfl (by kernel_rfl) ?_
    repeat (refine qIdx_step rfl ?_; go_big_quiet_step (fail); refine wpQuiet_nil ?_)
    refine qIdx_nil ?_
    refine E_bar (n := 0) (i := 8) (listed' := lst 9 [0, 1, 2, 3, 4, 5, 6, 7, 8]) (by kernel_rfl) rfl rfl rfl (by kernel_rfl) ?_
    go_wp2
    refine E_done (by kernel_rfl) ?_
    clear hc hfz HR
    generalize w8.setCell ⟨bo, 5, none⟩ (Value.slice A8 _ c8) = w8' at HO7 ⊢
    have e0 := cell_of HO7.out.out (i := 0) rfl
    have e1 := cell_of HO7.out.out (i := 1) rfl
    have e2 := cell_of HO7.out.out (i := 2) rfl
    have e3 := cell_of HO7.out.out (i := 3) rfl
    have e4 := cell_of HO7.out.out (i := 4) rfl
    have e5 := cell_of HO7.out.out (i := 5) rfl
    have hq := fun i (v : Value) (hi : #[Value.int .i64 0, .int .i64 0, .float .f64 0, .string ⟨#[]⟩, .slice none 0 0, .slice none 0 0][i]? = some v) => HO7.out.ext.cell (cell_of Hb2.out hi)
    have q0 := hq 0 _ rfl; have q1 := hq 1 _ rfl; have q2 := hq 2 _ rfl; have q3 := hq 3 _ rfl; have q4 := hq 4 _ rfl; have q5 := hq 5 _ rfl
    have hz : ∀ o, w8'.frozen? ⟨w.heap.size + 1 + 1, o, none⟩ = false := fun o => by simp [World.frozen?, HO7.out.ext.heap Hb2.out]
    clear hq
    go_wp2
    have HE9 : Hid (Ext w (six w8' (w.heap.size + 1 + 1) (.int .i64 6) (.int .i64 0) (.float .f64 0) (.string ⟨#[]⟩) (.slice A7 (m + 1 + (nk - (m))) c7) (.slice A8 (m + 1 + (nk - (m))) c8))) := six_ext (HE1.out.trans HO7.out.ext) (by omega) _ _ _ _ _ _
    have HV9 : Hid (RepGV (fun b => S b ∨ w.heap.size ≤ b) (six w8' (w.heap.size + 1 + 1) (.int .i64 6) (.int .i64 0) (.float .f64 0) (.string ⟨#[]⟩) (.slice A7 (m + 1 + (nk - (m))) c7) (.slice A8 (m + 1 + (nk - (m))) c8)) (mkMap (sIns key v fs)) [.int .i64 6, .int .i64 0, .float .f64 0, .string ⟨#[]⟩, .slice A7 (m + 1 + (nk - (m))) c7, .slice A8 (m + 1 + (nk - (m))) c8]) := by
      have hks : (sIns key v fs).map (·.1) = [] ++ ks.take m ++ [key] ++ ks.drop (m) := by
        rw [sIns_split, HK.out, Hm.out, if_neg (by simpa using Ho.out)]; rw [← HK.out]; simp [List.map_take, List.map_drop]
      have hls : (sIns key v fs).map (·.2) = [] ++ ls.take m ++ [v] ++ ls.drop (m) := by
        rw [sIns_split, HK.out, Hm.out, if_neg (by simpa using Ho.out)]; rw [← HL.out]; simp [List.map_take, List.map_drop]
      have hlen : (sIns key v fs).length ≤ nk + 1 := by have := sIns_length key v fs; rw [Hn.out] at this; exact this
      have hd := HO7.out.done (by
        rw [← hks, ← hls]
        refine ⟨by omega, by omega, by omega, Nat.zero_le _, by rw [List.length_map]; omega, fun k hk => ?_, by rw [List.length_map]; omega⟩
        rw [hks] at hk
        rcases List.mem_append.1 hk with hk | hk
        · rcases List.mem_append.1 hk with hk | hk
          · exact Hok.out.okEach k (List.mem_of_mem_take (by simpa using hk))
          · simp at hk; rw [hk]; exact hkey
        · exact Hok.out.okEach k (List.mem_of_mem_drop hk))
      rw [← hks, ← hls] at hd
      have hsz := HE1.out.size
      have hb2 := (Array.getElem?_eq_some_iff.1 Hb2.out).1
      have hbo := Hbo.out
      refine RepGV.frame (S' := fun b => S b ∨ w.heap.size ≤ b) ((six_same w8' (w.heap.size + 1 + 1) _ _ _ _ _ _).mono fun b hb => ?_) (fun b hb => ?_) hd
      · rcases hb with hb | hb <;> omega
      · rcases hb with hb | hb
        · exact .inl hb.1
        · exact .inr (by omega)
    clear HO7
    refine bodyPost_ret (v := .agg #[.int .i64 6, .int .i64 0, .float .f64 0, .string ⟨#[]⟩, .slice A7 (m + 1 + (nk - (m))) c7, .slice A8 (m + 1 + (nk - (m))) c8]) (by simp [results, Tryz.results27, go_sem, q0, q1, q2, q3, q4, q5]) rfl ?_
    exact ⟨_, rfl, ⟨_, rfl, HV9.out⟩, HE9.out⟩
end Go.Smd
end
section
set_option linter.unusedSimpArgs false
namespace Go.Smd
open Go.RowKit Go.Proofs
def insAll : List ByteArray → List GV → List (ByteArray × GV) → List (ByteArray × GV)
  | k :: ks, v :: vs, m => insAll ks vs (sIns k v m)
  | _, _, m => m
mutual
def clean : GV → GV
  | .mk kind n f s keys l =>
    if kind = 1 then .mk 1 (if n = 0 then 0 else 1) 0 ⟨#[]⟩ [] [] else if kind = 2 then .mk 2 n 0 ⟨#[]⟩ [] [] else if kind = 3 then .mk 3 0 f ⟨#[]⟩ [] []
    else if kind = 4 then .mk 4 0 0 s [] [] else if kind = 5 then .mk 5 0 0 ⟨#[]⟩ [] (cleans l) else if kind = 6 then mkMap (insAll keys (cleans l) []) else .mk 0 0 0 ⟨#[]⟩ [] []
def cleans : List GV → List GV
  | [] => []
  | x :: l => clean x :: cleans l
end
theorem cleans_eq : ∀ l, cleans l = l.map clean
  | [] => by simp [cleans]
  | x :: l => by simp [cleans, cleans_eq l]
theorem insAll_length : ∀ (ks : List ByteArray) (vs : List GV) (m : List (ByteArray × GV)), (insAll ks vs m).length ≤ m.length + min ks.length vs.length
  | [], vs, m => by simp [insAll]
  | k :: ks, [], m => by simp [insAll]
  | k :: ks, v :: vs, m => by
    simp only [insAll]
    have h1 := insAll_length ks vs (sIns k v m)
    have h2 := sIns_length k v m
    simp; omega
theorem insAll_sorted : ∀ (ks : List ByteArray) (vs : List GV) (m : List (ByteArray × GV)), Sorted m → Sorted (insAll ks vs m)
  | [], vs, m, h => by simpa [insAll] using h
  | k :: ks, [], m, h => by simpa [insAll] using h
  | k :: ks, v :: vs, m, h => by simp only [insAll]; exact insAll_sorted ks vs _ (sIns_sorted h)
theorem insAll_snoc : ∀ (ks : List ByteArray) (vs : List GV) (m : List (ByteArray × GV)) (i : Nat) (k : ByteArray) (v : GV), ks[i]? = some k → vs[i]? = some v →
    insAll (ks.take (i + 1)) (vs.take (i + 1)) m = sIns k v (insAll (ks.take i) (vs.take i) m)
  | [], _, _, i, _, _, h, _ => by simp at h
  | _ :: _, [], _, i, _, _, _, h => by simp at h
  | q :: ks, u :: vs, m, 0, k, v, hk, hv => by
    simp at hk hv; subst hk; subst hv
    simp [insAll]
  | q :: ks, u :: vs, m, i + 1, k, v, hk, hv => by
    simp only [List.take_succ_cons, insAll]
    exact insAll_snoc ks vs (sIns q u m) i k v (by simpa using hk) (by simpa using hv)
theorem insAll_take : ∀ (ks : List ByteArray) (vs : List GV) (m : List (ByteArray × GV)) (i : Nat), (ks.length ≤ i ∨ vs.length ≤ i) → insAll (ks.take i) (vs.take i) m = insAll ks vs m
  | [], vs, m, i, _ => by simp [insAll]
  | k :: ks, [], m, i, _ => by cases i <;> simp [insAll]
  | k :: ks, v :: vs, m, 0, h => by simp at h
  | k :: ks, v :: vs, m, i + 1, h => by
    simp only [List.take_succ_cons, insAll]
    exact insAll_take ks vs _ i (by simpa using h)
def GivesGV (S : Nat → Prop) (v : GV) (w : World) : Ending → World → Prop := Makes (fun W u => ∃ cs, u = .agg cs.toArray ∧ RepGV S W v cs) w
def CleanC (v : GV) : Prop := ∀ (cs : List Value) (w : World) (S : Nat → Prop), RepGV S w v cs → Calls Tryz.prog 24 #[.agg cs.toArray] w (GivesGV (w.heap.size ≤ ·) (clean v) w)
theorem RowOf.toGVs {S T : Nat → Prop} {w : World} {A : Option Addr} {l : List GV} (h : RowOf (RG w T) 6 S w A l) (hT : ∀ b, T b → S b) : RepGVs S w A l := RowOf.frame h (fun _ _ => rfl) (fun _ h => h) fun _ _ _ k => RepGV.mono k hT
set_option maxRecDepth 100000 in
set_option maxHeartbeats 1000000 in
theorem plainList_step (l : List GV) (IH : ∀ x ∈ l, CleanC x) (A : Option Addr) (n c : Nat) (w : World) (S : Nat → Prop) (hl : RepGVs S w A l) (hn : l.length = n) (hb : n * 88 ≤ 140737488351232) :
    Calls Tryz.prog 70 #[.slice A n c] w (Makes (fun W u => ∃ A' c', u = .slice A' n c' ∧ n ≤ c' ∧ RepGVs (w.heap.size ≤ ·) W A' (cleans l)) w) := by
  have Hn := Lib.hid hn; clear hn
  obtain ⟨cur, hmk, hB⟩ := Build.make (P := Tryz.prog) (R := RG) (S := (w.heap.size ≤ ·)) (T := (w.heap.size ≤ ·)) Tryz.underlying27 info_val (by omega) w n (by omega) (Nat.le_refl _)
  have HB := Lib.hid hB; clear hB
  go_enter Tryz.func70, Tryz.ntmps70
  go_wp2
  clear hmk
  go_loopw [3, 11] (fun v i wr => ∃ k : Nat, k ≤ n ∧ i = .int .i64 k ∧ Hid (Ext w wr) ∧ Hid (Build RG 31 6 (w.heap.size ≤ ·) (w.heap.size ≤ ·) wr v (cleans (l.take k)))) (fun _ i _ => n - (intOf i).toNat)
  case atStart => exact ⟨0, Nat.zero_le _, rfl, (Ext.refl w).alloc _, HB⟩
  case round =>
    obtain ⟨k, hk, rfl, hE, hB⟩ := hrel
    by_cases hlt : k < n
    · obtain ⟨x, hx⟩ : ∃ x, l[k]? = some x := ⟨l[k]'(by rw [Hn.out]; exact hlt), List.getElem?_eq_getElem _⟩
      obtain ⟨bd, d0, d1, d2, d3, d4, d5, rfl, _, hxr, hxc⟩ := (hl.ext hE.out).at hx
      have Hx := Lib.hid hx; clear hx
      obtain ⟨pa, hpa⟩ : ∃ pa, bd.add (k * 6) = pa := ⟨_, rfl⟩
      rw [hpa] at hxc
      obtain ⟨e0, e1, e2, e3, e4, e5⟩ := hxc.six
      obtain ⟨o0, o1, o2, o3, o4, o5⟩ := hxr.six
      go_wp2_with fail
      refine (IH x (List.mem_of_getElem? Hx.out) [d0, d1, d2, d3, d4, d5] _ S (hxr.ext ((Ext.refl _).alloc _))).mono ?_
      rintro e w1 ⟨u, rfl, ⟨cs, rfl, hu⟩, hE1⟩
      obtain ⟨f0, f1, f2, f3, f4, f5, rfl⟩ := hu.list6
      obtain ⟨p0, p1, p2, p3, p4, p5⟩ := hu.six
      have hsz := hE.out.size
      have hE2 : Ext wr w1 := ((Ext.refl wr).alloc _).trans hE1
      have hsz1 := hE1.size
      rw [size_alloc] at hsz1
      have hB1 := hB.out.ext framedRG hE2
      have hlk := hB.out
      obtain ⟨v2, w2, hrun, hB2, hg, hat, A2, c2, hv2⟩ := Build.push (P := Tryz.prog) framedRG (t := 27) (ty := 27) Tryz.underlying27 info_val rfl (by omega) (by omega) hB1 (y := clean x) (ys := [f0, f1, f2, f3, f4, f5]) (hu.mono fun b hb => by
        rw [size_alloc] at hb
        exact ⟨by omega, fun hc => by have := hlk.row_lt hc; omega⟩) rfl hu.ones (by omega) (by rw [cleans_eq, List.length_map, List.length_take]; omega)
      have HB2 : Hid (Build RG 31 6 (w.heap.size ≤ ·) (w.heap.size ≤ ·) w2 v2 (cleans (l.take (k + 1)))) := by
        have : cleans (l.take (k + 1)) = cleans (l.take k) ++ [clean x] := by rw [List.take_add_one, Hx.out]; simp [cleans_eq]
        rw [this]; exact hB2
      have HE2 : Hid (Ext w w2) := Below.grown (Below.trans hE.out (hE2.below hsz)) hg (by omega) fun b hb => hlk.row_in hb
      rw [hv2] at hrun HB2
      have HR := Lib.hid hrun
      clear hB2 hg hat hlk hB1 hB hE hu hE1 hE2 hv2 hrun
      go_wp2_with (at_builtin; go_must (refine wpList_append_run HR.out rfl rfl rfl rfl ?_))
      go_roundw
      case rel => exact ⟨k + 1, by omega, by go_num, HE2, HB2⟩
      case measure => simp [intOf]; omega
    · obtain ⟨A', c', rfl, hcap, hrow⟩ := hB.out.done framedRG (by omega)
      have e : l.take k = l := List.take_of_length_le (by rw [Hn.out]; omega)
      have hlen : (cleans (l.take k)).length = n := by rw [e, cleans_eq, List.length_map, Hn.out]
      rw [e] at hrow hcap
      rw [hlen]
      rw [cleans_eq, List.length_map, Hn.out] at hcap
      have HD := Lib.hid (RowOf.toGVs hrow fun b h => h)
      clear hrow hB e hlen
      go_wp2
      go_ret
      exact ⟨_, rfl, ⟨A', c', rfl, hcap, HD.out⟩, hE.out⟩
theorem res6 {fn : Func} {p : Tmp} (h : fn.results = #[.cell p 31]) {tmps : Array Value} {w : World} {g : Nat} {t : TypeId} {c0 c1 c2 c3 c4 c5 : Value} {fr : Nat × Nat} (hp : tmps.getD p undef = .pointer (some ⟨g, 0, none⟩)) (hg : w.heap[g]? = some (.cells #[c0, c1, c2, c3, c4, c5] t fr)) :
    (results fn tmps).run Tryz.prog w = .ok (.agg #[c0, c1, c2, c3, c4, c5]) w := results_cell_row h tmps w g t _ fr _ hp hg Tryz.underlying31 rfl (by kernel_rfl)
theorem mkMap_ok {fs : List (ByteArray × GV)} (hn : fs.length * 88 ≤ 140737488351232) (hk : ∀ p ∈ fs, p.1.size ≤ 140737488351232) : GVok 6 0 0 ⟨#[]⟩ (fs.map (·.1)) (fs.map (·.2)) :=
  ⟨by omega, by omega, by omega, Nat.zero_le _, by rw [List.length_map]; omega, fun k hkk => by obtain ⟨p, hp, rfl⟩ := List.mem_map.1 hkk; exact hk p hp, by rw [List.length_map]; omega⟩
set_option maxRecDepth 100000 in
set_option maxHeartbeats 2000000 in
theorem plainMapS_step (kind n : Int) (f : Nat) (s : ByteArray) (keys : List ByteArray) (l : List GV) (IH : ∀ x ∈ l, CleanC x) (cs : List Value) (w : World) (S : Nat → Prop) (hv : RepGV S w (.mk kind n f s keys l) cs) :
    Calls Tryz.prog 71 #[.agg cs.toArray] w (GivesGV (w.heap.size ≤ ·) (mkMap (insAll keys (cleans l) [])) w) := by
  obtain ⟨ka, kc, la, lc, rfl, ok, hkc, hlc, hks, hls⟩ := hv.open
  have h1 := ok.okKeys
  have h2 := ok.okL
  have Hkeach := Lib.hid ok.okEach
  obtain ⟨nk, hnk⟩ : ∃ n, keys.length = n := ⟨_, rfl⟩
  obtain ⟨nl, hnl⟩ : ∃ n, l.length = n := ⟨_, rfl⟩
  have Hk := Lib.hid hnk; have Hl := Lib.hid hnl
  rw [hnk] at h1 hkc ⊢; rw [hnl] at h2 hlc ⊢
  have Hv := Lib.hid hv
  clear hnk hnl ok hv
  go_enter Tryz.func71, Tryz.ntmps71
  go_wp2
  go_loopw [4] (fun i wr => ∃ k : Nat, k ≤ nk ∧ k ≤ nl ∧ i = .int .i64 k ∧ Hid (Ext w wr ∧ wr.heap[w.heap.size]? = some (.cells #[.int .i64 kind, .int .i64 n, .float .f64 f, .string s, .slice ka nk kc, .slice la nl lc] 31 (0, 0)) ∧ wr.heap[w.heap.size + 1]? = some (.cells #[.int .i64 0, .int .i64 0, .float .f64 0, .string ⟨#[]⟩, .slice none 0 0, .slice none 0 0] 31 (0, 0))) ∧ w.heap.size + 3 ≤ wr.heap.size ∧
    Hid (∃ c0 c1 c2 c3 c4 c5, wr.heap[w.heap.size + 2]? = some (.cells #[c0, c1, c2, c3, c4, c5] 31 (0, 0)) ∧ RepGV (w.heap.size + 3 ≤ ·) wr (mkMap (insAll (keys.take k) ((cleans l).take k) [])) [c0, c1, c2, c3, c4, c5])) (fun i _ => nk - (intOf i).toNat)
  case atStart =>
    refine ⟨0, Nat.zero_le _, Nat.zero_le _, rfl, ⟨(((Ext.refl w).alloc _).alloc _).alloc _, old_at _ (old_at _ (new_at _ rfl)), old_at _ (new_at _ (size_alloc _ _))⟩, ?_, ?_⟩
    · simp only [size_alloc]; omega
    · exact ⟨_, _, _, _, _, _, new_at _ (by simp only [size_alloc]), RepGV.close (keys := []) (l := []) (mkMap_ok (fs := []) (by simp) (by simp)) (Nat.zero_le _) (Nat.zero_le _) RowOf.nil RowOf.nil⟩
  case round =>
    obtain ⟨k, hk1, hk2, rfl, hb, hsz, hout⟩ := hrel
    have f4 := cell_of hb.out.2.1 (i := 4) rfl
    have f5 := cell_of hb.out.2.1 (i := 5) rfl
    by_cases hlt : k < nk
    · by_cases hlt2 : k < nl
      · obtain ⟨q, hq⟩ : ∃ q, keys[k]? = some q := ⟨keys[k]'(by rw [Hk.out]; exact hlt), List.getElem?_eq_getElem _⟩
        obtain ⟨x, hx⟩ : ∃ x, l[k]? = some x := ⟨l[k]'(by rw [Hl.out]; exact hlt2), List.getElem?_eq_getElem _⟩
        have hE := hb.out.1
        obtain ⟨ad, rfl, cq⟩ := (hks.ext hE).at hq
        obtain ⟨bd, d0, d1, d2, d3, d4, d5, rfl, _, hxr, hxc⟩ := (hls.ext hE).at hx
        have Hq := Lib.hid hq; have Hx := Lib.hid hx; clear hq hx
        obtain ⟨pa, hpa⟩ : ∃ pa, bd.add (k * 6) = pa := ⟨_, rfl⟩
        rw [hpa] at hxc
        obtain ⟨e0, e1, e2, e3, e4, e5⟩ := hxc.six
        obtain ⟨o0, o1, o2, o3, o4, o5⟩ := hxr.six
        obtain ⟨c0, c1, c2, c3, c4, c5, hbo, hrep⟩ := hout.out
        have g0 := cell_of hbo (i := 0) rfl; have g1 := cell_of hbo (i := 1) rfl; have g2 := cell_of hbo (i := 2) rfl
        have g3 := cell_of hbo (i := 3) rfl; have g4 := cell_of hbo (i := 4) rfl; have g5 := cell_of hbo (i := 5) rfl
        have Hbo := Lib.hid hbo; have Hrep := Lib.hid hrep
        clear hbo hrep hE
        go_wp2
        have hk0 : (0 : Int) ≤ (k : Int) := by omega
        have hk3 : (k : Int) < (nk : Int) := by omega
        have hk4 : (k : Int) < (nl : Int) := by omega
        refine wp_region_E [13] (by kernel_rfl) ?_
        refine E_takes (listed' := lst 14 [0, 1, 2, 3, 4, 5, 6, 7, 8, 9, 10]) [0, 1, 2, 3, 4, 5, 6, 7, 8, 9, 10] 3 (by kernel_rfl) (fun _ _ _ _ h => h) (by kernel_rfl) rfl (by kernel_rfl) ?_
        repeat (refine qIdx_step rfl ?_; go_big_quiet_step (fail); refine wpQuiet_nil ?_)
        refine qIdx_nil ?_
        obtain ⟨wd, hwd⟩ : ∃ W, wr.drew = W := ⟨_, rfl⟩
        rw [hwd]
        have HEd : Hid (Ext wr wd) := by rw [← hwd]; exact (Ext.refl wr).drew
        clear hwd
        refine E_one (n := 2) (i := 11) (listed' := lst 14 [0, 1, 2, 3, 4, 5, 6, 7, 8, 9, 10, 11]) (by kernel_rfl) rfl rfl (by kernel_rfl) ?_
        go_wp2_with fail
        refine (IH x (List.mem_of_getElem? Hx.out) [d0, d1, d2, d3, d4, d5] _ S (hxr.ext HEd.out)).mono ?_
        rintro e w1 ⟨u, rfl, ⟨cv, rfl, hu⟩, hE1⟩
        have hE02 := (hb.out.1.trans HEd.out).trans hE1
        have hsz2 := HEd.out.size
        have hsz3 := hE1.size
        go_wp2_with fail
        refine ⟨hE1, ?_⟩
        refine E_one (n := 1) (i := 12) (listed' := lst 14 [0, 1, 2, 3, 4, 5, 6, 7, 8, 9, 10, 11, 12]) (by kernel_rfl) rfl rfl (by kernel_rfl) ?_
        go_wp2_with fail
        refine (withField_c 6 0 0 ⟨#[]⟩ (insAll (keys.take k) ((cleans l).take k) []) q (clean x) _ cv w1 (w.heap.size + 3 ≤ ·) (Hrep.out.ext (HEd.out.trans hE1)) (hu.mono fun b hb => by omega) (insAll_sorted _ _ _ .nil) (by have := insAll_length (keys.take k) ((cleans l).take k) []; simp only [List.length_take, List.length_nil] at this; omega) (Hkeach.out q (List.mem_of_getElem? Hq.out))).mono ?_
        rintro e w2 ⟨u, rfl, ⟨cf, rfl, huf⟩, hE2⟩
        go_wp2_with fail
        refine ⟨hE2, ?_⟩
        obtain ⟨f0, f1, f2, f3, f4, f5, rfl⟩ := huf.list6
        obtain ⟨p0, p1, p2, p3, p4, p5⟩ := huf.six
        have hE3 := (HEd.out.trans hE1).trans hE2
        have hbo2 := hE3.heap Hbo.out
        have hz : ∀ o, w2.frozen? ⟨w.heap.size + 1 + 1, o, none⟩ = false := fun o => by simp [World.frozen?, hbo2]
        have g0 := cell_of hbo2 (i := 0) rfl; have g1 := cell_of hbo2 (i := 1) rfl; have g2 := cell_of hbo2 (i := 2) rfl
        have g3 := cell_of hbo2 (i := 3) rfl; have g4 := cell_of hbo2 (i := 4) rfl; have g5 := cell_of hbo2 (i := 5) rfl
        have HB2 := Lib.hid hbo2; have HUF := Lib.hid huf; have HE3 := Lib.hid hE3
        have hsz4 := hE3.size
        clear hbo2 huf hE3 hE1 hE2 hE02 hu
        refine E_bar (n := 0) (i := 13) (listed' := lst 14 [0, 1, 2, 3, 4, 5, 6, 7, 8, 9, 10, 11, 12, 13]) (by kernel_rfl) rfl rfl rfl (by kernel_rfl) ?_
        go_wp2
        refine E_done (by kernel_rfl) ?_
        have e : (cleans l)[k]? = some (clean x) := by rw [cleans_eq]; simp [Hx.out]
        have HN : Hid (∃ c0 c1 c2 c3 c4 c5, (six w2 (w.heap.size + 1 + 1) f0 f1 f2 f3 f4 f5).heap[w.heap.size + 2]? = some (.cells #[c0, c1, c2, c3, c4, c5] 31 (0, 0)) ∧ RepGV (w.heap.size + 3 ≤ ·) (six w2 (w.heap.size + 1 + 1) f0 f1 f2 f3 f4 f5) (mkMap (insAll (keys.take (k + 1)) ((cleans l).take (k + 1)) [])) [c0, c1, c2, c3, c4, c5]) := by
          rw [insAll_snoc keys (cleans l) [] k q (clean x) Hq.out e]
          refine ⟨_, _, _, _, _, _, six_at HB2.out _ _ _ _ _ _, ?_⟩
          exact RepGV.frame (S' := (w.heap.size + 3 ≤ ·)) ((six_same w2 (w.heap.size + 1 + 1) _ _ _ _ _ _).mono fun b hb => by omega) (fun b hb => by omega) HUF.out
        have HM : Hid (Ext w (six w2 (w.heap.size + 1 + 1) f0 f1 f2 f3 f4 f5) ∧ (six w2 (w.heap.size + 1 + 1) f0 f1 f2 f3 f4 f5).heap[w.heap.size]? = some (.cells #[.int .i64 kind, .int .i64 n, .float .f64 f, .string s, .slice (some ad) nk kc, .slice (some bd) nl lc] 31 (0, 0)) ∧ (six w2 (w.heap.size + 1 + 1) f0 f1 f2 f3 f4 f5).heap[w.heap.size + 1]? = some (.cells #[.int .i64 0, .int .i64 0, .float .f64 0, .string ⟨#[]⟩, .slice none 0 0, .slice none 0 0] 31 (0, 0))) :=
          ⟨six_ext (hb.out.1.trans HE3.out) (by omega) _ _ _ _ _ _, (six_same w2 (w.heap.size + 1 + 1) _ _ _ _ _ _ _ (by omega)).trans (HE3.out.heap hb.out.2.1), (six_same w2 (w.heap.size + 1 + 1) _ _ _ _ _ _ _ (by omega)).trans (HE3.out.heap hb.out.2.2)⟩
        have hsz5 : w.heap.size + 3 ≤ (six w2 (w.heap.size + 1 + 1) f0 f1 f2 f3 f4 f5).heap.size := by rw [six_size]; omega
        clear hout hb
        go_wp2
        go_roundw
        case rel => exact ⟨k + 1, by omega, by omega, by go_num, HM, hsz5, HN⟩
        case measure => simp [intOf]; omega
      · have hk0 : (0 : Int) ≤ (k : Int) := by omega
        have hk3 : (k : Int) < (nk : Int) := by omega
        have hk4 : ¬ (k : Int) < (nl : Int) := by omega
        obtain ⟨c0, c1, c2, c3, c4, c5, hbo, hrep⟩ := hout.out
        rw [insAll_take keys (cleans l) [] k (by rw [cleans_eq, List.length_map, Hl.out]; omega)] at hrep
        obtain ⟨o0, o1, o2, o3, o4, o5⟩ := hrep.six
        have g0 := cell_of hbo (i := 0) rfl; have g1 := cell_of hbo (i := 1) rfl; have g2 := cell_of hbo (i := 2) rfl
        have g3 := cell_of hbo (i := 3) rfl; have g4 := cell_of hbo (i := 4) rfl; have g5 := cell_of hbo (i := 5) rfl
        have q0 := cell_of hb.out.2.2 (i := 0) rfl; have q1 := cell_of hb.out.2.2 (i := 1) rfl; have q2 := cell_of hb.out.2.2 (i := 2) rfl
        have q3 := cell_of hb.out.2.2 (i := 3) rfl; have q4 := cell_of hb.out.2.2 (i := 4) rfl; have q5 := cell_of hb.out.2.2 (i := 5) rfl
        have hz : ∀ o, wr.frozen? ⟨w.heap.size + 1, o, none⟩ = false := fun o => by simp [World.frozen?, hb.out.2.2]
        have Hrep := Lib.hid hrep
        clear hbo hrep
        go_wp2
        have HQ : Hid ((six wr (w.heap.size + 1) c0 c1 c2 c3 c4 c5).heap[w.heap.size + 1]? = some (.cells #[c0, c1, c2, c3, c4, c5] 31 (0, 0))) := six_at hb.out.2.2 _ _ _ _ _ _
        have HEq : Hid (Ext w (six wr (w.heap.size + 1) c0 c1 c2 c3 c4 c5)) := six_ext hb.out.1 (by omega) _ _ _ _ _ _
        have HRq : Hid (RepGV (w.heap.size ≤ ·) (six wr (w.heap.size + 1) c0 c1 c2 c3 c4 c5) (mkMap (insAll keys (cleans l) [])) [c0, c1, c2, c3, c4, c5]) := RepGV.frame (S' := (w.heap.size ≤ ·)) ((six_same wr (w.heap.size + 1) _ _ _ _ _ _).mono fun b hb => by omega) (fun b hb => by omega) Hrep.out
        refine bodyPost_ret (res6 Tryz.results71 rfl HQ.out) rfl ?_
        exact ⟨_, rfl, ⟨_, rfl, HRq.out⟩, HEq.out⟩
    · have hk0 : (0 : Int) ≤ (k : Int) := by omega
      have hk3 : ¬ (k : Int) < (nk : Int) := by omega
      obtain ⟨c0, c1, c2, c3, c4, c5, hbo, hrep⟩ := hout.out
      rw [insAll_take keys (cleans l) [] k (.inl (by rw [Hk.out]; omega))] at hrep
      obtain ⟨o0, o1, o2, o3, o4, o5⟩ := hrep.six
      have g0 := cell_of hbo (i := 0) rfl; have g1 := cell_of hbo (i := 1) rfl; have g2 := cell_of hbo (i := 2) rfl
      have g3 := cell_of hbo (i := 3) rfl; have g4 := cell_of hbo (i := 4) rfl; have g5 := cell_of hbo (i := 5) rfl
      have q0 := cell_of hb.out.2.2 (i := 0) rfl; have q1 := cell_of hb.out.2.2 (i := 1) rfl; have q2 := cell_of hb.out.2.2 (i := 2) rfl
      have q3 := cell_of hb.out.2.2 (i := 3) rfl; have q4 := cell_of hb.out.2.2 (i := 4) rfl; have q5 := cell_of hb.out.2.2 (i := 5) rfl
      have hz : ∀ o, wr.frozen? ⟨w.heap.size + 1, o, none⟩ = false := fun o => by simp [World.frozen?, hb.out.2.2]
      have Hrep := Lib.hid hrep
      clear hbo hrep
      go_wp2
      have HQ : Hid ((six wr (w.heap.size + 1) c0 c1 c2 c3 c4 c5).heap[w.heap.size + 1]? = some (.cells #[c0, c1, c2, c3, c4, c5] 31 (0, 0))) := six_at hb.out.2.2 _ _ _ _ _ _
      have HEq : Hid (Ext w (six wr (w.heap.size + 1) c0 c1 c2 c3 c4 c5)) := six_ext hb.out.1 (by omega) _ _ _ _ _ _
      have HRq : Hid (RepGV (w.heap.size ≤ ·) (six wr (w.heap.size + 1) c0 c1 c2 c3 c4 c5) (mkMap (insAll keys (cleans l) [])) [c0, c1, c2, c3, c4, c5]) := RepGV.frame (S' := (w.heap.size ≤ ·)) ((six_same wr (w.heap.size + 1) _ _ _ _ _ _).mono fun b hb => by omega) (fun b hb => by omega) Hrep.out
      refine bodyPost_ret (res6 Tryz.results71 rfl HQ.out) rfl ?_
      exact ⟨_, rfl, ⟨_, rfl, HRq.out⟩, HEq.out⟩
end Go.Smd
end
