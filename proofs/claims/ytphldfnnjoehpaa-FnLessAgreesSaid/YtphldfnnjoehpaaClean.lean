/- spec.Clean and its parts: the plain form of a value. -/
import Derived.Test.YtphldfnnjoehpaaStr
import Derived.Test.YtphldfnnjoehpaaRegion
namespace Go.Smd
open Go.RowKit Go.Proofs

set_option maxHeartbeats 1000000 in
theorem fieldIndex_c (kind n : Int) (f : Nat) (s : ByteArray) (keys : List ByteArray) (l : List GV) (key : ByteArray) (cs : List Value) (w : World) (S : Nat → Prop) (hv : RepGV S w (.mk kind n f s keys l) cs) (hsort : keys.Pairwise fun a b => blt a b = true) :
    Calls Try.prog 91 #[.agg cs.toArray, .string key] w (Makes (fun _ u => u = .tuple #[.int .i64 (lower key keys : Nat), .bool (decide (keys[lower key keys]? = some key))]) w) := by
  obtain ⟨ka, kc, la, lc, rfl, ok, hkc, hlc, hks, hls⟩ := hv.open
  have h1 := ok.okKeys
  obtain ⟨nk, hnk⟩ : ∃ n, keys.length = n := ⟨_, rfl⟩
  have Hk := Lib.hid hnk
  have HS := Lib.hid hsort
  rw [hnk] at h1 hkc ⊢
  have h2 := ok.okL
  clear hnk ok hsort
  go_enter Try.func91, Try.ntmps91
  go_wp2
  go_quiet (fail)
  go_wp2
  have hks0 := hks.ext (((Ext.refl w).alloc (.cells #[.int .i64 kind, .int .i64 n, .float .f64 f, .string s, .slice ka nk kc, .slice la l.length lc] 26)).drewN nq)
  go_loop [6, 7] (fun lo hi => ∃ a b : Nat, a ≤ b ∧ b ≤ nk ∧ lo = .int .i64 a ∧ hi = .int .i64 b ∧ Hid (∀ j q, j < a → keys[j]? = some q → blt q key = true) ∧ Hid (∀ j q, b ≤ j → keys[j]? = some q → blt q key = false)) (fun lo hi => (intOf hi - intOf lo).toNat)
  case atStart => exact ⟨0, nk, by omega, by omega, rfl, rfl, fun j q h => by omega, fun j q h h' => by have := (List.getElem?_eq_some_iff.1 h').1; rw [Hk.out] at this; omega⟩
  case round =>
    obtain ⟨a, b, hab, hbn, rfl, rfl, hlo, hhi⟩ := hrel
    by_cases hlt : a < b
    · obtain ⟨q, hq⟩ : ∃ q, keys[a + (b - a) / 2]? = some q := ⟨_, List.getElem?_eq_getElem (by rw [Hk.out]; omega)⟩
      obtain ⟨ad, rfl, hc⟩ := hks0.at hq
      have Hq := Lib.hid hq; clear hq
      have Hm := Lib.hid (Nat.div_le_self (b - a) 2)
      have Hm2 := Lib.hid (show (b - a) / 2 < b - a by omega)
      by_cases hbl : Op.bytesLess q.toList key.toList = true
      · have HB := Lib.hid hbl
        go_wp2
        go_round
        case rel =>
          refine ⟨a + (b - a) / 2 + 1, b, by have := Hm2.out; omega, hbn, by go_num, rfl, fun j p hj hp => ?_, hhi⟩
          by_cases hjj : j = a + (b - a) / 2
          · subst hjj; rw [Hq.out] at hp; cases hp; exact HB.out
          · rcases Nat.lt_or_ge j a with hja | hja
            · exact hlo.out j p hja hp
            · have hpw := List.pairwise_iff_getElem.1 HS.out j (a + (b - a) / 2) (List.getElem?_eq_some_iff.1 hp).1 (List.getElem?_eq_some_iff.1 Hq.out).1 (by omega)
              rw [(List.getElem?_eq_some_iff.1 hp).2, (List.getElem?_eq_some_iff.1 Hq.out).2] at hpw
              exact blt_trans hpw HB.out
        case measure => have := Hm2.out; simp [intOf]; omega
      · have hbl' : Op.bytesLess q.toList key.toList = false := by simpa using hbl
        have HB := Lib.hid hbl'
        clear hbl
        go_wp2
        go_round
        case rel =>
          refine ⟨a, a + (b - a) / 2, by omega, by have := Hm2.out; omega, rfl, by go_num, hlo, fun j p hj hp => ?_⟩
          by_cases hjj : j = a + (b - a) / 2
          · subst hjj; rw [Hq.out] at hp; cases hp; exact HB.out
          · have hpw := List.pairwise_iff_getElem.1 HS.out (a + (b - a) / 2) j (List.getElem?_eq_some_iff.1 Hq.out).1 (List.getElem?_eq_some_iff.1 hp).1 (by omega)
            rw [(List.getElem?_eq_some_iff.1 hp).2, (List.getElem?_eq_some_iff.1 Hq.out).2] at hpw
            cases hpk : blt p key with
            | false => rfl
            | true => exact absurd (blt_trans hpw hpk) (by have := HB.out; unfold blt; rw [this]; simp)
        case measure => have := Hm2.out; simp [intOf]; omega
    · obtain rfl : a = b := by omega
      have HL : Hid (lower key keys = a) := lower_of (by rw [Hk.out]; omega) (fun j q hj hq => hlo.out j q hj hq) fun q hq => hhi.out a q (Nat.le_refl _) hq
      have HF : ∀ (b : Bool) (W : World), b = decide (keys[a]? = some key) → Ext w W → Makes (fun _ u => u = .tuple #[.int .i64 (lower key keys : Nat), .bool (decide (keys[lower key keys]? = some key))]) w (.returned (.tuple #[.int .i64 a, .bool b])) W := fun b W hb hE => ⟨_, rfl, by rw [HL.out, hb], hE⟩
      have HF' := Lib.hid HF; clear HF
      have HE : ∀ m, Ext w (((w.alloc (.cells #[.int .i64 kind, .int .i64 n, .float .f64 f, .string s, .slice ka nk kc, .slice la l.length lc] 26)).drewN nq).drewN m) := fun m => (((Ext.refl w).alloc _).drewN nq).drewN m
      have HE' := Lib.hid HE; clear HE
      by_cases ha : a < nk
      · obtain ⟨q, hq⟩ : ∃ q, keys[a]? = some q := ⟨_, List.getElem?_eq_getElem (by rw [Hk.out]; omega)⟩
        obtain ⟨ad, rfl, hc⟩ := (hks.ext ((Ext.refl w).alloc (.cells #[.int .i64 kind, .int .i64 n, .float .f64 f, .string s, .slice ka nk kc, .slice la l.length lc] 26))).at hq
        have Hq := Lib.hid hq; clear hq
        have hda : decide ((a : Int) < (nk : Int)) = true := decide_eq_true (by omega)
        have hlt1 : (a : Int) < (nk : Int) := by omega
        have hlt0 : (0 : Int) ≤ (a : Int) := by omega
        go_wp2
        go_quiet (fail)
        go_wp2
        go_ret2
        refine HF'.out _ _ ?_ ?_
        · rw [Hq.out, beq_list]; simp
        · exact HE'.out _
      · have HN : Hid (keys[a]? = none) := List.getElem?_eq_none (by rw [Hk.out]; omega)
        have hda : decide ((a : Int) < (nk : Int)) = false := decide_eq_false (by omega)
        go_wp2
        go_quiet (fail)
        go_wp2
        go_ret2
        refine HF'.out _ _ ?_ ?_
        · rw [HN.out]; simp
        · exact HE'.out _

/-! ### WithField -/
def mkMap (fs : List (ByteArray × GV)) : GV := .mk 6 0 0 ⟨#[]⟩ (fs.map (·.1)) (fs.map (·.2))

theorem grownBy_below {B : Nat} {a w w' : World} {row : Option Nat} (h : Below B a w) (hg : w.grownBy w' row) (hB : B ≤ w.heap.size) (hr : ∀ k, row = some k → B ≤ k) : Below B a w' := Below.grown h hg hB hr

/-- In the midst of WithField: the new map in block bo, its rows vk and vl. -/
structure OutSt (w : World) (T : Nat → Prop) (bo : Nat) (wr : World) (vk vl : Value) (ks : List ByteArray) (ls : List GV) : Prop where
  hbo : w.heap.size ≤ bo
  hT : ∀ b, T b → b < w.heap.size
  below : Below bo w wr
  lt : bo < wr.heap.size
  out : wr.heap[bo]? = some (.cells #[.int .i64 6, .int .i64 0, .float .f64 0, .string ⟨#[]⟩, vk, vl] 26 (0, 0))
  bk : Build RS 9 1 (bo < ·) T wr vk ks
  bl : Build RG 26 6 (bo < ·) T wr vl ls
theorem OutSt.ext {w : World} {T : Nat → Prop} {bo : Nat} {wr : World} {vk vl : Value} {ks : List ByteArray} {ls : List GV} (h : OutSt w T bo wr vk vl ks ls) : Ext w wr := h.below.mono h.hbo

theorem OutSt.drew {w : World} {T : Nat → Prop} {bo : Nat} {wr : World} {vk vl : Value} {ks : List ByteArray} {ls : List GV} (h : OutSt w T bo wr vk vl ks ls) : OutSt w T bo wr.drew vk vl ks ls :=
  ⟨h.hbo, h.hT, h.below.drew, h.lt, h.out, h.bk.ext framedRS ((Ext.refl wr).drew), h.bl.ext framedRG ((Ext.refl wr).drew)⟩

theorem OutSt.keysTo {w : World} {T : Nat → Prop} {bo : Nat} {wr w3 : World} {vk vl vk' : Value} {ks ks' : List ByteArray} {ls : List GV} (h : OutSt w T bo wr vk vl ks ls) (hB : Build RS 9 1 (bo < ·) T w3 vk' ks') (hg : wr.grownBy w3 vk.ownBlock) :
    w3.cell? ⟨bo, 4, none⟩ = some vk ∧ w3.frozen? ⟨bo, 4, none⟩ = false ∧ OutSt w T bo (w3.setCell ⟨bo, 4, none⟩ vk') vk' vl ks' ls := by
  have hne : some bo ≠ vk.ownBlock := fun hc => by have := h.bk.row_in hc.symm; omega
  have ho := (hg.block bo h.lt hne).trans h.out
  have hs := hg.size
  have hl := h.lt
  have hsame := setCell_same w3 bo 4 vk'
  refine ⟨cell_of ho rfl, by simp [World.frozen?, ho], ⟨h.hbo, h.hT, ?_, by simp [World.setCell]; omega, by rw [setCell_at vk' ho]; rfl, ?_, ?_⟩⟩
  · exact (grownBy_below h.below hg (by omega) fun k hk => by have := h.bk.row_in hk; omega).setCell (Nat.le_refl _) _
  · exact hB.frame framedRS (hsame.mono fun b hb => by omega) (hsame.mono fun b hb => by have := h.hT b hb.1; have := h.hbo; omega) (fun _ h => h) fun _ h => h
  · have := h.bl.other framedRG hg (h.bl.row_ne h.bk (by decide)) fun k hk hT => by have := h.bk.row_in hk; have := h.hT k hT; have := h.hbo; omega
    exact this.frame framedRG (hsame.mono fun b hb => by omega) (hsame.mono fun b hb => by have := h.hT b hb.1; have := h.hbo; omega) (fun _ h => h) fun _ h => h
theorem OutSt.listTo {w : World} {T : Nat → Prop} {bo : Nat} {wr w3 : World} {vk vl vl' : Value} {ks : List ByteArray} {ls ls' : List GV} (h : OutSt w T bo wr vk vl ks ls) (hB : Build RG 26 6 (bo < ·) T w3 vl' ls') (hg : wr.grownBy w3 vl.ownBlock) :
    w3.cell? ⟨bo, 5, none⟩ = some vl ∧ w3.frozen? ⟨bo, 5, none⟩ = false ∧ OutSt w T bo (w3.setCell ⟨bo, 5, none⟩ vl') vk vl' ks ls' := by
  have hne : some bo ≠ vl.ownBlock := fun hc => by have := h.bl.row_in hc.symm; omega
  have ho := (hg.block bo h.lt hne).trans h.out
  have hs := hg.size
  have hl := h.lt
  have hsame := setCell_same w3 bo 5 vl'
  refine ⟨cell_of ho rfl, by simp [World.frozen?, ho], ⟨h.hbo, h.hT, ?_, by simp [World.setCell]; omega, by rw [setCell_at vl' ho]; rfl, ?_, ?_⟩⟩
  · exact (grownBy_below h.below hg (by omega) fun k hk => by have := h.bl.row_in hk; omega).setCell (Nat.le_refl _) _
  · have := h.bk.other framedRS hg (h.bk.row_ne h.bl (by decide)) fun k hk hT => by have := h.bl.row_in hk; have := h.hT k hT; have := h.hbo; omega
    exact this.frame framedRS (hsame.mono fun b hb => by omega) (hsame.mono fun b hb => by have := h.hT b hb.1; have := h.hbo; omega) (fun _ h => h) fun _ h => h
  · exact hB.frame framedRG (hsame.mono fun b hb => by omega) (hsame.mono fun b hb => by have := h.hT b hb.1; have := h.hbo; omega) (fun _ h => h) fun _ h => h
theorem OutSt.appK {w : World} {T : Nat → Prop} {bo : Nat} {wr : World} {vk vl : Value} {ks : List ByteArray} {ls : List GV} (h : OutSt w T bo wr vk vl ks ls) {ys : List ByteArray} {A : Option Addr} {n c : Nat} {S : Nat → Prop} (hl : ys.length = n) (hr : RepStrs S wr A ys) {N : Nat} (hN : ks.length + n = N) (hn : N * 16 ≤ 140737488355328) :
    ∃ vk' w3, (Builtin.append_ #[23, 23] 23 #[vk, .slice A n c]).run Try.prog wr = .ok vk' w3 ∧ (∃ A' c', vk' = .slice A' N c') ∧ w3.cell? ⟨bo, 4, none⟩ = some vk ∧ w3.frozen? ⟨bo, 4, none⟩ = false ∧ OutSt w T bo (w3.setCell ⟨bo, 4, none⟩ vk') vk' vl (ks ++ ys) ls := by
  subst hN
  obtain ⟨vk', w3, hrun, hB, hg, _, hsl⟩ := Build.appRow (P := Try.prog) (t := 23) (ty := 23) framedRS Try.underlying23 info_str rfl (by omega) (by omega) h.bk (c := c) hl (RowOf.imp hr (Ext.refl _) fun _ _ _ k => k) (fun y cs hy u hu => by cases hy; simp at hu; subst hu; rfl) h.lt hn
  exact ⟨vk', w3, hrun, hsl, h.keysTo hB hg⟩
theorem OutSt.appL {w : World} {T : Nat → Prop} {bo : Nat} {wr : World} {vk vl : Value} {ks : List ByteArray} {ls : List GV} (h : OutSt w T bo wr vk vl ks ls) {ys : List GV} {A : Option Addr} {n c : Nat} (hl : ys.length = n) (hr : RepGVs T wr A ys) {N : Nat} (hN : ls.length + n = N) (hn : N * 88 ≤ 140737488355328) :
    ∃ vl' w3, (Builtin.append_ #[24, 24] 24 #[vl, .slice A n c]).run Try.prog wr = .ok vl' w3 ∧ (∃ A' c', vl' = .slice A' N c') ∧ w3.cell? ⟨bo, 5, none⟩ = some vl ∧ w3.frozen? ⟨bo, 5, none⟩ = false ∧ OutSt w T bo (w3.setCell ⟨bo, 5, none⟩ vl') vk vl' ks (ls ++ ys) := by
  subst hN
  obtain ⟨vl', w3, hrun, hB, hg, _, hsl⟩ := Build.appRow (P := Try.prog) (t := 24) (ty := 24) framedRG Try.underlying24 info_val rfl (by omega) (by omega) h.bl (c := c) hl (RowOf.imp hr (Ext.refl _) fun x _ cs k => RepGV.mono k fun b hb => ⟨hb, fun hc => by have := h.bl.row_in hc; have := h.hT b hb; have := h.hbo; omega⟩) (fun y cs hy => hy.ones) h.lt hn
  exact ⟨vl', w3, hrun, hsl, h.listTo hB hg⟩
theorem OutSt.pushK {w : World} {T : Nat → Prop} {bo : Nat} {wr : World} {vk vl : Value} {ks : List ByteArray} {ls : List GV} (h : OutSt w T bo wr vk vl ks ls) (k : ByteArray) {N : Nat} (hN : ks.length + 1 = N) (hn : N * 16 ≤ 140737488355328) :
    ∃ vk' w3, (Builtin.append_ #[23, 23] 23 #[vk, .slice (some ⟨wr.heap.size, 0, none⟩) 1 1]).run Try.prog (wr.alloc (.cells #[.string k] 9)) = .ok vk' w3 ∧ (∃ A' c', vk' = .slice A' N c') ∧ w3.cell? ⟨bo, 4, none⟩ = some vk ∧ w3.frozen? ⟨bo, 4, none⟩ = false ∧ OutSt w T bo (w3.setCell ⟨bo, 4, none⟩ vk') vk' vl (ks ++ [k]) ls := by
  subst hN
  obtain ⟨vk', w3, hrun, hB, hg, _, hsl⟩ := Build.push (P := Try.prog) (t := 23) (ty := 23) framedRS Try.underlying23 info_str rfl (by omega) (by omega) h.bk (y := k) (ys := [.string k]) rfl rfl (by simp [Value.oneCell']) (by have := h.lt; omega) hn
  exact ⟨vk', w3, hrun, hsl, h.keysTo hB hg⟩
theorem OutSt.pushL {w : World} {T : Nat → Prop} {bo : Nat} {wr : World} {vk vl : Value} {ks : List ByteArray} {ls : List GV} (h : OutSt w T bo wr vk vl ks ls) {v : GV} {cs : List Value} (hv : RepGV T wr v cs) {N : Nat} (hN : ls.length + 1 = N) (hn : N * 88 ≤ 140737488355328) :
    ∃ vl' w3, (Builtin.append_ #[24, 24] 24 #[vl, .slice (some ⟨wr.heap.size, 0, none⟩) 1 1]).run Try.prog (wr.alloc (.cells cs.toArray 26)) = .ok vl' w3 ∧ (∃ A' c', vl' = .slice A' N c') ∧ w3.cell? ⟨bo, 5, none⟩ = some vl ∧ w3.frozen? ⟨bo, 5, none⟩ = false ∧ OutSt w T bo (w3.setCell ⟨bo, 5, none⟩ vl') vk vl' ks (ls ++ [v]) := by
  subst hN
  obtain ⟨vl', w3, hrun, hB, hg, _, hsl⟩ := Build.push (P := Try.prog) (t := 24) (ty := 24) framedRG Try.underlying24 info_val rfl (by omega) (by omega) h.bl (y := v) (ys := cs) (RepGV.mono hv fun b hb => ⟨hb, fun hc => by have := h.bl.row_in hc; have := h.hT b hb; have := h.hbo; omega⟩) hv.length hv.ones (by have := h.lt; omega) hn
  exact ⟨vl', w3, hrun, hsl, h.listTo hB hg⟩
/-- At the end: the map. -/
theorem OutSt.done {w : World} {T : Nat → Prop} {bo : Nat} {wr : World} {vk vl : Value} {ks : List ByteArray} {ls : List GV} (h : OutSt w T bo wr vk vl ks ls) (ok : GVok 6 0 0 ⟨#[]⟩ ks ls) :
    RepGV (fun b => T b ∨ w.heap.size ≤ b) wr (.mk 6 0 0 ⟨#[]⟩ ks ls) [.int .i64 6, .int .i64 0, .float .f64 0, .string ⟨#[]⟩, vk, vl] := by
  obtain ⟨ka, kc, rfl, hkc, hk⟩ := h.bk.done framedRS (by omega)
  obtain ⟨la, lc, rfl, hlc, hl⟩ := h.bl.done framedRG (by omega)
  have hbo := h.hbo
  refine RepGV.close ok hkc hlc (RowOf.frame hk (fun _ _ => rfl) (fun b hb => .inr (by omega)) fun _ _ _ k => k) ?_
  exact RowOf.frame hl (fun _ _ => rfl) (fun b hb => .inr (by omega)) fun _ _ _ k => RepGV.mono k fun b hb => .inl hb
end Go.Smd
