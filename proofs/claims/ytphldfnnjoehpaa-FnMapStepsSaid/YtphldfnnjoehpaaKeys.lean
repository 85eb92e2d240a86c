/- impl.sortedKeys: the keys of a map, in order. -/
import Derived.Test.YtphldfnnjoehpaaRange
set_option linter.unusedSimpArgs false
namespace Go.Smd
open Go.RowKit Go.Proofs Go.Maps Go.WideElems

set_option maxRecDepth 100000 in
set_option maxHeartbeats 4000000 in
theorem sortedKeys_c (w : World) (r clock : Nat) (es : List MapEntry) (ks so : List ByteArray) (hr : w.heap[r]? = some (.map es.toArray clock)) (hm : ks.length * 16 ≤ 140737488351232) (hk : es.map (·.key) = ks.map Value.string)
    (hs : ∀ k ∈ ks, k.size ≤ 140737488351232) (hb : (es.map (·.born)).Pairwise (· < ·)) (hbc : ∀ e ∈ es, e.born < clock) (hnd : ks.Nodup) (hso : so.Pairwise fun a b => blt a b = true) (hmem : ∀ q, q ∈ so ↔ q ∈ ks) :
    Calls Try.prog 113 #[.map (some r)] w (Makes (fun W u => ∃ A c, u = .slice A so.length c ∧ so.length ≤ c ∧ RepStrs (w.heap.size ≤ ·) W A so) w) := by
  obtain ⟨D, hown, hhas, hhas2, -⟩ := owns_of_map hr (by omega) hk hs hb hbc hnd
  obtain ⟨n, hn⟩ : ∃ n, ks.length = n := ⟨_, rfl⟩
  rw [hn] at hown hm
  have Hn := Lib.hid hn
  have hrl := (Array.getElem?_eq_some_iff.1 hr).1
  have Hs := Lib.hid hs; have Hnd := Lib.hid hnd; have Hso := Lib.hid hso; have Hmem := Lib.hid hmem; have Hhas := Lib.hid hhas; have Hhas2 := Lib.hid hhas2
  clear hr hk hs hb hbc hnd hso hmem hhas hhas2 hn
  go_enter Try.func113, Try.ntmps113
  go_wp2_with (at_range; refine wpList_range_own _ rfl _ 154 rfl 9 20 (string_keyed Try.underlying9) Try.underlying154 HeldR r n D rfl hown ?_)
  intro w0 hrg0 hg0 hs0

  have HR0 := Lib.hid hrg0
  have HE0 : Hid (Ext w w0) := ⟨hg0.os, hg0.tape, hg0.output, hg0.size, fun k hk => hg0.block k hk (by simp)⟩
  have hsz0 : Maps.size D ≤ n := hown.size_le
  clear hrg0 hg0 hown
  go_wp2_with fail
  go_loopw [3] (fun v wr => ∃ (ss : List ByteArray) (left : Lit → Bool) (cnt : Nat), Hid (wr.ranges Try.prog 9 HeldR r w.heap.size n D left cnt) ∧ Hid (OwnS wr (w.heap.size + 1) v ss) ∧ Hid (ss.Pairwise fun a b => blt a b = true) ∧
    Hid (∀ q, q ∈ ss ↔ q ∈ ks ∧ left (litS q) = false) ∧ Hid (∀ kl, left kl = true → Maps.has D kl = true) ∧ ss.length + cnt ≤ n ∧ Hid (Ext w wr)) (fun _ wr => wr.rangeLeft r w.heap.size)
  case atStart =>
    refine ⟨[], Maps.has D, Maps.size D, HR0, OwnS.nil _ _, .nil, fun q => ⟨fun h => by simp at h, fun h => ?_⟩, fun _ h => h, by simpa using hsz0, HE0⟩
    have := (Hhas.out q).2 h.1
    rw [this] at h; cases h.2
  case round =>
    obtain ⟨ss, left, cnt, hrg, hos, hss, hmm, hlh, hcnt, hE⟩ := hrel
    obtain ⟨A0, c0, rfl, hc0⟩ := hos.out.form
    go_wp2_with (at_next; refine wpList_next_ranges _ rfl _ rfl 9 (string_keyed Try.underlying9) HeldR Value.string id (fun key kl hkey => by obtain ⟨s, h1, _⟩ := keyOf_str_inv hkey; exact ⟨s, h1⟩) (fun v y _ => ⟨v, rfl⟩) r w.heap.size n D left cnt rfl hrg.out ?_ ?_)
    · intro h0 hl0
      have he : ss = so := sorted_eq hss.out Hso.out fun q => by rw [hmm.out q, Hmem.out q]; exact ⟨fun h => h.1, fun h => ⟨h, hl0 _⟩⟩
      obtain ⟨A1, c1, h1, hc1, hrep⟩ := hos.out.rep
      simp only [Value.slice.injEq, true_and] at h1
      obtain ⟨rfl, rfl⟩ := h1
      rw [he] at hrep hc1
      have Hrep := Lib.hid (RowOf.frame (S' := (w.heap.size ≤ ·)) hrep (fun _ _ => rfl) (fun b hb => by omega) fun _ _ _ h => h)
      have hlen : ss.length = so.length := by rw [he]
      rw [hlen]
      go_wp2
      go_ret
      exact ⟨_, rfl, ⟨_, _, rfl, hc1, Hrep.out⟩, hE.out⟩
    · intro k c kl y pl w1 cnt1 hkl hlk hR hat hrg1 hlt hg1 hs1 hen
      obtain ⟨k', hkk, rfl⟩ := keyOf_str_inv hkl
      cases hkk
      have hkin : k ∈ ks := (Hhas.out k).1 (hlh.out _ hlk)
      have hknot : k ∉ ss := fun h => by have := ((hmm.out k).1 h).2; rw [hlk] at this; cases this
      have hos1 := hos.out.kept hg1 (.inr (hos.out.ne (by omega)))
      have hBsz : w.heap.size + 1 ≤ w1.heap.size := by rw [hs1]; have := hrg.out.lt; omega
      obtain ⟨v2, w2, hrun, hos2, hg2⟩ := hos1.push k 23 hBsz (by omega)
      have hrg2 := hrg1.kept hg2 (fun e => hos1.ne (b := r) (by omega) e.symm) (fun e => hos1.ne (b := w.heap.size) (by omega) e.symm)
      obtain ⟨g, c2, rfl, hgB, hgs⟩ := hos2.addr (by simp)
      have hE1 : Ext w w1 := Below.grown hE.out hg1 hE.out.size fun k hk => by cases hk; exact Nat.le_refl _
      have hE2 : Ext w w2 := Below.grown hE1 hg2 hE1.size fun b hb => by have := (World.ownsRow.lt hos1 b hb).1; omega
      have hl2 : (ss ++ [k]).length = ss.length + 1 := by simp
      obtain ⟨m, hm'⟩ : ∃ m, ss.length = m := ⟨_, rfl⟩
      rw [hl2] at hos2 hrun
      rw [hm'] at hos2 hrun hcnt hc0 hos ⊢
      have Hm := Lib.hid hm'
      have HR := Lib.hid hrun; have HO2 := Lib.hid hos2; have HR2 := Lib.hid hrg2; have HE2 := Lib.hid hE2; have Hkin := Lib.hid hkin; have Hkn := Lib.hid hknot
      have HM : Hid (∀ z, (left z && !z.sameKey (litS k)) = false ↔ left z = false ∨ z = litS k) := fun z => by
        cases hz : left z
        · simp
        · obtain ⟨q, rfl⟩ := Hhas2.out z (hlh.out z hz)
          simp only [Bool.true_and, Bool.not_eq_false', litS_same, decide_eq_true_eq]
          constructor
          · intro e; exact .inr (by rw [e])
          · rintro (e | e)
            · cases e
            · exact litS_inj e
      have Hrl := Lib.hid (show w2.rangeLeft r w.heap.size < wr.rangeLeft r w.heap.size by rw [hrg2.left_eq, hrg.out.left_eq]; exact hlt)
      clear hrun hos2 hrg2 hE2 hE1 hos1 hrg1 hg1 hg2 hrg hos hkin hknot hm' hl2 hat hkl hlk hR hE hs1 hs0
      go_wp2_with (at_builtin; go_must (refine wpList_append_run HR.out rfl rfl rfl rfl ?_))
      have hgB' : w.heap.size + 1 ≤ g := hgB
      go_loopw [5] (fun i wq => ∃ j : Nat, j ≤ m ∧ i = .int .i64 j ∧ Hid (OwnS wq (w.heap.size + 1) (.slice (some ⟨g, 0, none⟩) (m + 1) c2) (putAt k ss j)) ∧ Hid (∀ q ∈ ss.drop j, blt k q = true) ∧ Hid (w2.grownBy wq (some g))) (fun i _ => (intOf i).toNat)
      case atStart =>
        refine ⟨m, Nat.le_refl _, by go_num, ?_, fun q hq => ?_, World.grownBy.refl _ _⟩
        · rw [← Hm.out, putAt_end, Hm.out]; exact HO2.out
        · rw [← Hm.out] at hq; simp at hq
      case round =>
        obtain ⟨j, hj, rfl, hoj, hdr, hgj⟩ := hrel
        by_cases hj0 : j = 0
        · subst hj0
          go_wp2_with fail
          refine wp_region_E [] (by kernel_rfl) ?_
          refine E_takes (listed' := lst 14 [0, 1, 2, 3, 4, 5, 6, 7, 8, 9, 10, 11, 12, 13]) [0, 1, 2, 3, 4, 5, 6, 7, 8, 9, 10, 11, 12, 13] 0 (by kernel_rfl) (fun _ _ _ _ h => h) (by kernel_rfl) rfl (by kernel_rfl) ?_
          repeat (refine qIdx_step rfl ?_; go_big_quiet_step (fail); refine wpQuiet_nil ?_)
          refine qIdx_nil ?_
          refine E_done (by kernel_rfl) ?_
          have HG : Hid (w2.grownBy wr.drew (some g)) := ⟨hgj.out.os, hgj.out.tape, hgj.out.output, hgj.out.size, hgj.out.block⟩
          have hne1 : some r ≠ some g := by intro e; cases e; omega
          have hne2 : some w.heap.size ≠ some g := by intro e; cases e; omega
          have HRG : Hid (wr.drew.ranges Try.prog 9 HeldR r w.heap.size n D (fun z => left z && !z.sameKey (litS k)) cnt1) := HR2.out.kept HG.out hne1 hne2
          have HOS : Hid (OwnS wr.drew (w.heap.size + 1) (.slice (some ⟨g, 0, none⟩) (m + 1) c2) (putAt k ss 0)) := hoj.out
          have HEE : Hid (Ext w wr.drew) := Below.grown HE2.out HG.out HE2.out.size fun b hb => by cases hb; omega
          have HSS : Hid ((putAt k ss 0).Pairwise fun a b => blt a b = true) := putAt_sorted hss.out (fun q hq => by simp at hq) hdr.out
          have HMM : Hid (∀ q, q ∈ putAt k ss 0 ↔ q ∈ ks ∧ (left (litS q) && !(litS q).sameKey (litS k)) = false) := fun q => by
            rw [putAt_mem, HM.out, hmm.out q]
            constructor
            · rintro (h | h)
              · subst h; exact ⟨Hkin.out, .inr rfl⟩
              · exact ⟨h.1, .inl h.2⟩
            · rintro ⟨h1, h2 | h2⟩
              · exact .inr ⟨h1, h2⟩
              · exact .inl (litS_inj h2)
          have HLH : Hid (∀ kl, (left kl && !kl.sameKey (litS k)) = true → Maps.has D kl = true) := fun kl h => hlh.out kl (by simp only [Bool.and_eq_true] at h; exact h.1)
          have HCC : (putAt k ss 0).length + cnt1 ≤ n := by rw [putAt_length, Hm.out]; omega
          have HME := Lib.hid (show wr.drew.rangeLeft r w.heap.size = w2.rangeLeft r w.heap.size by rw [HRG.out.left_eq, HR2.out.left_eq])
          clear hoj hgj hdr
          generalize wr.drew = wz at HG HRG HOS HEE HME ⊢
          go_wp2
          go_roundw
          case rel => exact ⟨_, _, _, HRG, HOS, HSS, HMM, HLH, HCC, HEE⟩
          case measure => rw [HME.out]; exact Hrl.out
        · obtain ⟨p, rfl⟩ : ∃ p, j = p + 1 := ⟨j - 1, by omega⟩
          obtain ⟨s, hs⟩ : ∃ s, ss[p]? = some s := ⟨ss[p]'(by rw [Hm.out]; omega), List.getElem?_eq_getElem _⟩
          have hlen : m + 1 = (putAt k ss (p + 1)).length := by rw [putAt_length, Hm.out]
          have f1 := OwnS.cell hoj.out hlen (putAt_at k (by rw [Hm.out]; exact hj))
          have f0 := OwnS.cell hoj.out hlen (putAt_prev k hs)
          obtain ⟨b, hb⟩ : ∃ b, Op.bytesLess k.toList s.toList = b := ⟨_, rfl⟩
          go_wp2_with fail
          refine wp_region_E [] (by kernel_rfl) ?_
          refine E_takes (listed' := lst 14 [0, 1, 2, 3, 4, 5, 6, 7, 8, 9, 10, 11, 12, 13]) [0, 1, 2, 3, 4, 5, 6, 7, 8, 9, 10, 11, 12, 13] 0 (by kernel_rfl) (fun _ _ _ _ h => h) (by kernel_rfl) rfl (by kernel_rfl) ?_
          repeat (refine qIdx_step rfl ?_; go_big_quiet_step (fail); refine wpQuiet_nil ?_)
          refine qIdx_nil ?_
          refine E_done (by kernel_rfl) ?_
          cases b with
          | false =>
            have hks' : blt s k = true := by
              rcases blt_tri k s with h' | h' | h'
              · have h'' : Op.bytesLess k.toList s.toList = true := h'
                rw [hb] at h''; cases h''
              · exact absurd (h' ▸ List.mem_of_getElem? hs) Hkn.out
              · exact h'
            have HT : ∀ q ∈ ss.take (p + 1), blt q k = true := fun q hq => by
              rw [List.take_add_one, hs] at hq
              rcases List.mem_append.1 hq with hq | hq
              · obtain ⟨i, hi, rfl⟩ := List.getElem_of_mem hq
                have hi' : i < p := by simp at hi; omega
                have h2 := List.pairwise_iff_getElem.1 hss.out i p (by simp at hi; omega) (by rw [Hm.out]; omega) hi'
                have h3 : ss[p]'(by rw [Hm.out]; omega) = s := by have := List.getElem?_eq_some_iff.1 hs; exact this.2
                rw [h3] at h2
                rw [List.getElem_take]
                exact blt_trans h2 hks'
              · simp at hq; subst hq; exact hks'
            have HG : Hid (w2.grownBy wr.drew (some g)) := ⟨hgj.out.os, hgj.out.tape, hgj.out.output, hgj.out.size, hgj.out.block⟩
            have hne1 : some r ≠ some g := by intro e; cases e; omega
            have hne2 : some w.heap.size ≠ some g := by intro e; cases e; omega
            have HRG : Hid (wr.drew.ranges Try.prog 9 HeldR r w.heap.size n D (fun z => left z && !z.sameKey (litS k)) cnt1) := HR2.out.kept HG.out hne1 hne2
            have HOS : Hid (OwnS wr.drew (w.heap.size + 1) (.slice (some ⟨g, 0, none⟩) (m + 1) c2) (putAt k ss (p + 1))) := hoj.out
            have HEE : Hid (Ext w wr.drew) := Below.grown HE2.out HG.out HE2.out.size fun b hb => by cases hb; omega
            have HSS : Hid ((putAt k ss (p + 1)).Pairwise fun a b => blt a b = true) := putAt_sorted hss.out HT hdr.out
            have HMM : Hid (∀ q, q ∈ putAt k ss (p + 1) ↔ q ∈ ks ∧ (left (litS q) && !(litS q).sameKey (litS k)) = false) := fun q => by
              rw [putAt_mem, HM.out, hmm.out q]
              constructor
              · rintro (h | h)
                · subst h; exact ⟨Hkin.out, .inr rfl⟩
                · exact ⟨h.1, .inl h.2⟩
              · rintro ⟨h1, h2 | h2⟩
                · exact .inr ⟨h1, h2⟩
                · exact .inl (litS_inj h2)
            have HLH : Hid (∀ kl, (left kl && !kl.sameKey (litS k)) = true → Maps.has D kl = true) := fun kl h => hlh.out kl (by simp only [Bool.and_eq_true] at h; exact h.1)
            have HCC : (putAt k ss (p + 1)).length + cnt1 ≤ n := by rw [putAt_length, Hm.out]; omega
            have HME := Lib.hid (show wr.drew.rangeLeft r w.heap.size = w2.rangeLeft r w.heap.size by rw [HRG.out.left_eq, HR2.out.left_eq])
            clear hoj hgj hdr
            generalize wr.drew = wz at HG HRG HOS HEE HME ⊢
            go_wp2
            go_roundw
            case rel => exact ⟨_, _, _, HRG, HOS, HSS, HMM, HLH, HCC, HEE⟩
            case measure => rw [HME.out]; exact Hrl.out
          | true =>
            have f0' := f0; have f1' := f1
            have hz : ∀ o, wr.frozen? ⟨g, o, none⟩ = false := fun o => World.ownsRow.frozenAt (n := m + 1) (by have := hoj.out; unfold OwnS at this; rw [← hlen] at this; exact this) o
            go_wp2_with fail
            refine wp_region_E [15, 17] (by kernel_rfl) ?_
            refine E_pures (listed' := lst 18 [0, 1, 2, 3, 4, 5, 6, 7, 10, 11]) [0, 1, 2, 3, 4, 5, 6, 7, 10, 11] 8 (by kernel_rfl) (fun _ _ _ _ h => h) (by kernel_rfl) rfl (by kernel_rfl) ?_
            repeat (refine qIdx_step rfl ?_; go_big_quiet_step (fail); refine wpQuiet_nil ?_)
            refine qIdx_nil ?_
            refine E_takes (listed' := lst 18 [0, 1, 2, 3, 4, 5, 6, 7, 8, 9, 10, 11, 12, 13, 14]) [8, 9, 12, 13, 14] 3 (by kernel_rfl) (fun _ _ _ _ h => h) (by kernel_rfl) rfl (by kernel_rfl) ?_
            repeat (refine qIdx_step rfl ?_; go_big_quiet_step (fail); refine wpQuiet_nil ?_)
            refine qIdx_nil ?_
            refine E_bar (n := 2) (i := 15) (listed' := lst 18 [0, 1, 2, 3, 4, 5, 6, 7, 8, 9, 10, 11, 12, 13, 14, 15]) (by kernel_rfl) rfl rfl rfl (by kernel_rfl) ?_
            go_wp2
            refine E_takes (listed' := lst 18 [0, 1, 2, 3, 4, 5, 6, 7, 8, 9, 10, 11, 12, 13, 14, 15, 16]) [16] 1 (by kernel_rfl) (fun _ _ _ _ h => h) (by kernel_rfl) rfl (by kernel_rfl) ?_
            repeat (refine qIdx_step rfl ?_; go_big_quiet_step (fail); refine wpQuiet_nil ?_)
            refine qIdx_nil ?_
            refine E_bar (n := 0) (i := 17) (listed' := lst 18 [0, 1, 2, 3, 4, 5, 6, 7, 8, 9, 10, 11, 12, 13, 14, 15, 16, 17]) (by kernel_rfl) rfl rfl rfl (by kernel_rfl) ?_
            go_wp2
            refine E_done (by kernel_rfl) ?_
            have HS1 := OwnS.set hoj.out hlen (p + 1) s
            have hlen2 : m + 1 = ((putAt k ss (p + 1)).set (p + 1) s).length := by rw [List.length_set]; exact hlen
            have HS2 := OwnS.set HS1.1 hlen2 p k
            rw [putAt_swap k hs] at HS2
            have HOJ : Hid (OwnS ((wr.setCell ⟨g, p + 1, none⟩ (.string s)).setCell ⟨g, p, none⟩ (.string k)).drew.drew (w.heap.size + 1) (.slice (some ⟨g, 0, none⟩) (m + 1) c2) (putAt k ss p)) := HS2.1
            have hg12 := World.grownBy.trans (World.grownBy.trans hgj.out HS1.2) HS2.2
            have HGJ : Hid (w2.grownBy ((wr.setCell ⟨g, p + 1, none⟩ (.string s)).setCell ⟨g, p, none⟩ (.string k)).drew.drew (some g)) := ⟨hg12.os, hg12.tape, hg12.output, hg12.size, hg12.block⟩
            have HDR : Hid (∀ q ∈ ss.drop p, blt k q = true) := fun q hq => by
              have e : ss.drop p = s :: ss.drop (p + 1) := by
                rw [List.drop_eq_getElem_cons (by rw [Hm.out]; omega)]
                congr 1
                exact (List.getElem?_eq_some_iff.1 hs).2
              rw [e] at hq
              rcases List.mem_cons.1 hq with rfl | hq
              · exact hb
              · exact hdr.out q hq
            clear HS1 HS2 hg12 hoj hgj hdr f0 f1 f0' f1' hz
            generalize ((wr.setCell ⟨g, p + 1, none⟩ (.string s)).setCell ⟨g, p, none⟩ (.string k)).drew.drew = wz at HOJ HGJ ⊢
            go_wp2
            go_roundw
            case rel => exact ⟨p, by omega, by go_num, HOJ, HDR, HGJ⟩
            case measure => simp [intOf]
end Go.Smd
