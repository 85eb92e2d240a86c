/- The law FnSetSize holds of every list of paths: the size of the set of these paths is the number of paths that it lists, and it is empty exactly if that is 0. -/
import Derived.Test.YtannholebjdckaaGreatQS32
set_option linter.unusedVariables false
section
set_option linter.unusedSimpArgs false
set_option maxRecDepth 100000
set_option maxHeartbeats 8000000
namespace Go.Smd
open Go.RowKit Go.Proofs
abbrev tPth : TypeId := 26
abbrev rowsW (W : List (List EV)) : List (List D) := W.map fun w => [dPath (cP w)]
theorem dPaths_cP (W : List (List EV)) : dPaths (W.map cP) = .sl tPth (rowsW W) := by simp only [dPaths, List.map_map]; rfl
theorem cells_pth : Tryz.prog.cellsOf tPth = 1 := by kernel_rfl
theorem bytes_pth : Tryz.prog.bytesOf tPth = 24 := by kernel_rfl
theorem info_pth : (Tryz.prog.info? tPth).map (fun i => (i.zero, i.size, i.bytes)) = some (some (.slice none 0 0), 1, 24) := by kernel_rfl
abbrev BW (S : Nat → Prop) (w wr : World) (v : Value) (W : List (List EV)) : Prop := Build (RDs Tryz.prog) tPth 1 (w.heap.size ≤ ·) (fun b => S b ∨ w.heap.size ≤ b) wr v (rowsW W)
theorem CE_size (e : EV) (h : EVs e) : EVs (CE e) := by
  have := CE_bounds e h
  exact ⟨this.1, this.2⟩
theorem place_w {W : List (List EV)} (hW : OkW W) (hl : W.length ≤ 2147483648) (hs : ∀ w ∈ W, PthS w) {p : List EV} (hp : ∀ e ∈ p, GoodE e) (hps : PthS p) :
    ACalls Tryz.prog 52 [.c (.d (dPaths (W.map cP))), .c (.d (dPath p))] (fun r => r = .tup [(false, [.d (dI (lbG wcmp p W : Nat))]), (false, [.d (dB (hasW W p))])]) := by
  have ho : OPth p := fun e he => (hp e he).o
  refine place_a (W.map cP) p (lbG wcmp p W) (hasW W p) (by simp; omega) (fun w hw => ?_) hps ⟨by simpa using lbG_le p W, fun j h k => ?_, fun j h k => ?_⟩ ?_
  · obtain ⟨w0, h0, rfl⟩ := List.mem_map.1 hw
    have := hs w0 h0
    refine ⟨by simp [cP]; exact this.1, fun e he => ?_⟩
    obtain ⟨e0, h1, rfl⟩ := List.mem_map.1 he
    exact CE_size e0 (this.2 e0 h1)
  · rw [List.getElem_map, wcmp_cP]
    exact lbG_lo p W j (by simpa using h) k
  · rw [List.getElem_map, wcmp_cP]
    exact lbG_hi wcmp_ord ho W hW.oe hW.sort j (by simpa using h) k
  · rw [hasW_iff, ← atG_iff wcmp_ord ho hW.oe hW.sort]
    constructor
    · rintro ⟨x, h1, h2⟩
      exact ⟨cP x, by rw [List.getElem?_map, h1]; rfl, by rw [wcmp_cP]; exact h2⟩
    · rintro ⟨x, h1, h2⟩
      rw [List.getElem?_map, Option.map_eq_some_iff] at h1
      obtain ⟨y, h3, rfl⟩ := h1
      exact ⟨y, h3, by rw [wcmp_cP] at h2; exact h2⟩
theorem BW.dat {S : Nat → Prop} {w wr : World} {v : Value} {W : List (List EV)} (h : BW S w wr v W) (hl : W.length ≤ 2147483648) : RepD Tryz.prog wr (· < wr.heap.size) (dPaths (W.map cP)) v := by
  rw [dPaths_cP]
  have h2 := h.lt (framedRDs _)
  refine Build.data (E := tPth) (S0 := fun b => w.heap.size ≤ b ∧ b < wr.heap.size) (by rw [cells_pth]; exact h2) ⟨by rw [bytes_pth]; simp; omega, fun x hx => ?_⟩ rfl (fun j x y hx hy => by rw [hx] at hy; cases hy; exact ⟨rfl, fun us k => (framedRDs _).frame k (fun _ _ => rfl) fun b hb => hb.2⟩) fun k hk => h.row_lt hk
  obtain ⟨p, _, rfl⟩ := List.mem_map.1 hx
  rw [cells_pth]; rfl
theorem BW.dat2 {S : Nat → Prop} {w wr : World} {v : Value} {W : List (List EV)} (h : BW S w wr v W) (hl : W.length ≤ 2147483648) : RepD Tryz.prog wr (fun b => S b ∨ w.heap.size ≤ b) (dPaths (W.map cP)) v := by
  rw [dPaths_cP]
  refine Build.data (E := tPth) (S0 := (w.heap.size ≤ ·)) (S := fun b => S b ∨ w.heap.size ≤ b) (by rw [cells_pth]; exact h) ⟨by rw [bytes_pth]; simp; omega, fun x hx => ?_⟩ rfl (fun j x y hx hy => by rw [hx] at hy; cases hy; exact ⟨rfl, fun us k => k⟩) fun k hk => .inr (h.row_in hk)
  obtain ⟨p, _, rfl⟩ := List.mem_map.1 hx
  rw [cells_pth]; rfl
theorem mkW_len : ∀ (n : Nat) (l : List (List EV)), (mkW (l.take n)).length ≤ n
  | 0, l => by simp
  | n + 1, l => by
    have ih := mkW_len n l
    rw [List.take_add_one]
    cases h : l[n]? with
    | none => simp; omega
    | some p =>
      simp only [Option.toList_some, mkW_snoc, insW]
      split
      · omega
      · split
        · omega
        · rw [insAt_length]; omega
theorem mkW_mem : ∀ (n : Nat) (l : List (List EV)) {x : List EV}, x ∈ mkW (l.take n) → x ∈ l.take n
  | 0, l, x, h => by simp at h
  | n + 1, l, x, h => by
    have ih := mkW_mem n l (x := x)
    rw [List.take_add_one] at h ⊢
    cases hp : l[n]? with
    | none => rw [hp] at h; simp at h ⊢; exact ih h
    | some p =>
      rw [hp] at h
      simp only [Option.toList_some, mkW_snoc, insW] at h ⊢
      simp only [List.mem_append, List.mem_singleton]
      split at h
      · exact .inl (ih h)
      · split at h
        · exact .inl (ih h)
        · rcases mem_insAt.1 h with rfl | h
          · exact .inr rfl
          · exact .inl (ih h)
set_option maxRecDepth 100000 in
set_option maxHeartbeats 8000000 in
theorem setOf_raw (l : List (List EV)) (w : World) (S : Nat → Prop) (lv : Value) (hlv : RepD Tryz.prog w S (dPaths l) lv) (hS : ∀ b, S b → b < w.heap.size) (hl : l.length ≤ 2147483647) (hg : ∀ p ∈ l, PthS p ∧ ∀ e ∈ p, GoodE e) :
    Calls Tryz.prog 12 #[lv] w fun en w' => ∃ v, en = .returned v ∧ RepD Tryz.prog w' (fun b => S b ∨ w.heap.size ≤ b) (dPaths ((mkW l).map cP)) v ∧ Ext w w' := by
  obtain ⟨A, c, e1, hc, _, hrow⟩ := RepD.sl_iff.1 hlv
  simp only [List.length_map] at e1 hc
  subst e1
  obtain ⟨n, hn⟩ : ∃ n, l.length = n := ⟨_, rfl⟩
  have hitem : Hid (∀ k, k < n → ∃ (p : List EV) (ad : Addr) (A' : Option Addr) (c' : Nat), l[k]? = some p ∧ A = some ad ∧ w.cell? (ad.add k) = some (.slice A' p.length c') ∧ RepD Tryz.prog w S (dPath p) (.slice A' p.length c')) := by
    refine Lib.hid fun k hk => ?_
    have hp : l[k]? = some l[k] := List.getElem?_eq_getElem (by omega)
    obtain ⟨_, h2⟩ := hrow k [dPath l[k]] (by rw [List.getElem?_map, hp]; rfl)
    obtain ⟨ad, h3, h4⟩ := h2 (by rw [cells_pth]; omega)
    obtain ⟨u, _, h6, h7⟩ := h4 0 (dPath l[k]) rfl
    obtain ⟨A', c', e2, _⟩ := RepD.sl_iff.1 h7
    simp only [List.length_map] at e2
    subst e2
    refine ⟨l[k], ad, A', c', hp, h3, ?_, h7⟩
    rw [cells_pth, Nat.mul_one, add_add, Nat.add_zero] at h6
    exact h6
  have Hn := Lib.hid hn
  rw [hn] at hc hl hlv ⊢
  have HSd := Lib.hid hS; have Hg := Lib.hid hg
  clear hrow hlv hS hg hn
  have hn9 : n ≤ 9223372036854775807 := by omega
  go_enter Tryz.func12, Tryz.ntmps12
  go_wp2
  go_loopw [3, 10] (fun v i wr => ∃ k : Nat, k ≤ n ∧ i = .int .i64 k ∧ Hid (Ext w wr ∧ BW S w wr v (mkW (l.take k)))) (fun _ i _ => n - (intOf i).toNat)
  case atStart => exact ⟨0, Nat.zero_le _, rfl, Lib.hid ⟨Ext.refl w, Build.nil⟩⟩
  case round =>
    obtain ⟨k, hk, rfl, hI⟩ := hrel
    by_cases hlt : k < n
    · obtain ⟨p, ad, A', c', hp, rfl, hcell, hrep⟩ := hitem.out k hlt
      have hcell := hI.out.1.cell hcell
      have htk : mkW (l.take (k + 1)) = insW p (mkW (l.take k)) := by rw [List.take_add_one, hp]; simp [mkW_snoc]
      have Htk := Lib.hid htk; have Hrep := Lib.hid hrep; have Hp := Lib.hid hp
      clear htk hrep hp
      have hpm : p ∈ l := List.mem_of_getElem? Hp.out
      have hpl : p.length ≤ 9223372036854775807 := by have := (Hg.out p hpm).1.1; omega
      cases p with
      | nil =>
        go_wp2
        go_roundw
        case rel => exact ⟨k + 1, by omega, by go_num, Lib.hid ⟨hI.out.1, by rw [Htk.out]; exact hI.out.2⟩⟩
        case measure => simp [intOf]; omega
      | cons e q =>
        obtain ⟨W, hW⟩ : ∃ W, W = mkW (l.take k) := ⟨_, rfl⟩
        obtain ⟨hE, hB⟩ := hI.out
        rw [← hW] at hB
        have hgt : ∀ q ∈ l.take k, ∀ e ∈ q, GoodE e := fun q hq => (Hg.out q (List.mem_of_mem_take hq)).2
        obtain ⟨okW, hsz, _⟩ := mk_same _ (l.take k) rfl hgt
        rw [← hW] at okW
        obtain ⟨m, hm⟩ : ∃ m, m = W.length := ⟨_, rfl⟩
        have hmk : m ≤ k := by rw [hm, hW]; exact mkW_len _ _
        have hsW : ∀ x ∈ W, PthS x := fun x hx => by
          rw [hW] at hx
          exact (Hg.out x (List.mem_of_mem_take (mkW_mem _ _ hx))).1
        obtain ⟨A1, c1, hv⟩ := hB.slice
        rw [List.length_map, ← hm] at hv
        subst hv
        have hcp := place_w okW (by omega) hsW (Hg.out _ hpm).2 (Hg.out _ hpm).1
        have hd := BW.dat hB (by omega)
        obtain ⟨i, hi⟩ : ∃ i, i = lbG wcmp (e :: q) W := ⟨_, rfl⟩
        have hiw : i ≤ m := by rw [hi, hm]; exact lbG_le _ _
        rw [← hi] at hcp
        have HPL : Hid (Calls Tryz.prog 52 #[.slice A1 m c1, .slice A' (q.length + 1) c'] wr fun en w2 => en = .returned (.tuple #[.int .i64 i, .bool (hasW W (e :: q))]) ∧ Ext wr w2) := by
          refine Lib.hid ((hcp.2 wr (· < wr.heap.size) [_, _] (fun b hb => hb) (.cons hd (.cons ((Hrep.out.ext hE).mono fun b hb => Nat.lt_of_lt_of_le (HSd.out b hb) hE.size) .nil))).mono ?_)
          rintro en w2 ⟨v, r, rfl, rfl, hv, hE2⟩
          refine ⟨?_, hE2⟩
          obtain ⟨us, rfl, ha⟩ := hv
          obtain ⟨p1, us, rfl, k1, ha⟩ := ha.inv
          obtain ⟨p2, us, rfl, k2, ha⟩ := ha.inv
          cases ha.inv0
          obtain ⟨x1, e1, k1⟩ := k1
          obtain ⟨x2, e2, k2⟩ := k2
          cases e1; cases e2
          cases (show RepD _ w2 _ (dI _) p1 from k1)
          cases (show RepD _ w2 _ (dB _) p2 from k2)
          rfl
        have Hi := Lib.hid hi; have Hm := Lib.hid hm; have HokW := Lib.hid okW; have HsW := Lib.hid hsW; have HW := Lib.hid hW; have HE := Lib.hid hE; have HB := Lib.hid hB
        clear hi hcp hd hgt hsz hm okW hsW hW hE hB hI
        go_wp2_with fail
        refine HPL.out.mono ?_
        rintro en w2 ⟨rfl, hE2⟩
        have HE2 := Lib.hid hE2
        clear hE2 HPL hcell
        cases hfd : hasW W (e :: q) with
        | true =>
          have hnx : mkW (l.take (k + 1)) = W := by rw [Htk.out, ← HW.out]; simp [insW, hfd]
          have HK : Hid (Ext w w2 ∧ BW S w w2 (.slice A1 m c1) (mkW (l.take (k + 1)))) := Lib.hid ⟨HE.out.trans HE2.out, by rw [hnx]; exact HB.out.ext (framedRDs _) HE2.out⟩
          clear hnx hfd
          go_wp2_with fail
          go_roundw
          case rel => exact ⟨k + 1, by omega, by go_num, HK⟩
          case measure => simp [intOf]; omega
        | false =>
          have HFD := Lib.hid hfd
          clear hfd
          have hB2 := HB.out.ext (framedRDs _) HE2.out
          have hsz2 : w.heap.size ≤ w2.heap.size := (HE.out.trans HE2.out).size
          obtain ⟨v5, w5, hrun, hB5, hg5, hat5, _⟩ := Build.push (P := Tryz.prog) (framedRDs _) (t := 22) (ty := 22) Tryz.underlying22 info_pth rfl (by omega) (by omega) hB2 (y := [dPath []]) (ys := [.slice none 0 0]) (.cons (RepD.nil _) .nil) rfl (by simp [Value.oneCell']) (by omega) (by rw [List.length_map, ← Hm.out]; omega)
          obtain ⟨cs5, hown5, h1c, hel5⟩ := RDs.cells hB5 (by omega)
          have hbs5 : ∀ x, v5.ownBlock = some x → w.heap.size ≤ x := fun x hx => hB5.row_in hx
          rw [List.length_append, List.length_map, ← Hm.out] at hown5
          obtain ⟨g, cap, cur, rfl, z1, z2, z3, z4, z5⟩ := World.ownsRow.one hown5 (by simp)
          have hgw : w.heap.size ≤ g := hbs5 g rfl
          simp only [List.length_cons, List.length_nil, Nat.zero_add, Nat.mul_one] at hrun hown5 z2 z4 z5
          have hE5 : Ext w w5 := by
            refine ⟨hg5.os.trans (HE.out.trans HE2.out).os, hg5.tape.trans (HE.out.trans HE2.out).tape, hg5.output.trans (HE.out.trans HE2.out).output, Nat.le_trans hsz2 hg5.size, fun b hb => ?_⟩
            refine (hg5.block b (by omega) fun h => ?_).trans ((HE.out.trans HE2.out).block b hb)
            have := HB.out.row_in h.symm
            omega
          have HR := Lib.hid hrun; have HE5 := Lib.hid hE5; have HZ1 := Lib.hid z1; have HZ5 := Lib.hid z5; have HZ4 := Lib.hid z4; have H1C := Lib.hid h1c; have HEL := Lib.hid hel5; have HO5 := Lib.hid hown5
          clear hrun hB5 hg5 hat5 hown5 hbs5 z1 z4 z5 h1c hel5 hB2 hE5
          go_upto_region 9 with (at_builtin; refine wpList_append_run HR.out rfl rfl rfl rfl ?_)
          have hgd : w5.drew.heap[g]? = some (.cells cur tPth (0, 0)) := HZ1.out
          have hcl : cs5.length = m + 1 := by rw [HO5.out.1, Nat.mul_one]
          obtain ⟨cr, hcr⟩ : ∃ cr, cr = (cs5.drop i).take (m - i) := ⟨_, rfl⟩
          have hcrl : cr.length = m - i := by rw [hcr, List.length_take, List.length_drop, hcl]; omega
          obtain ⟨c9, hc9⟩ : ∃ c9, c9 = (cur.toList.take (i + 1) ++ cr ++ cur.toList.drop (i + 1 + cr.length)).toArray := ⟨_, rfl⟩
          have hz4 := HZ4.out
          have hcsz : cur.toList.length = cap := by rw [Array.length_toList]; omega
          have hc9s : c9.size = cap := by rw [hc9]; simp only [List.size_toArray, List.length_append, List.length_take, List.length_drop, hcrl, hcsz]; omega
          have hcap9 : cap ≤ 9223372036854775807 := by unfold maxLen at z3; omega
          obtain ⟨dv, hcut1, hcp⟩ : ∃ dv, (∀ W' : World, (Instr.slice 22 (.slice (some ⟨g, 0, none⟩) (m + 1) cap) (some (.int .i64 ((i : Int) + 1))) none none).run Tryz.prog W' = .ok dv W') ∧
              ∀ ty, (Builtin.copy_ #[22, 22] ty #[dv, .slice (some ⟨g, i, none⟩) (m + 1 - i) (cap - i)]).run Tryz.prog w5.drew = .ok (goInt ((m - i : Nat) : Int)) (w5.drew.setRow g c9) := by
            have ht := Tryz.underlying22
            have hel : Tryz.prog.elem 22 = tPth := by simp [Program.elem, ht]
            have hu : Tryz.prog.underlying 22 = some (.slice (Tryz.prog.elem 22)) := by rw [hel]; exact ht
            obtain ⟨ifo, hi', h4⟩ := Option.map_eq_some_iff.1 (show (Tryz.prog.info? tPth).map (·.size) = some 1 from by kernel_rfl)
            have hsrc : ∀ (j : Nat) (v : Value), cr[j]? = some v → w5.drew.cell? ((⟨g, i, none⟩ : Addr).add j) = some v := fun j v hj => by
              have e : (⟨g, i, none⟩ : Addr).add j = ⟨g, i + j, none⟩ := by unfold Addr.add; split <;> simp_all
              rw [e]
              refine cell_of hgd ?_
              rw [hcr, List.getElem?_take] at hj
              split at hj
              · rw [List.getElem?_drop, ← HZ5.out, List.getElem?_take] at hj
                split at hj
                · simpa using hj
                · cases hj
              · cases hj
            have h1r : ∀ v ∈ cr, v.oneCell' = true := fun v hv => H1C.out v (by rw [hcr] at hv; exact List.mem_of_mem_drop (List.mem_of_mem_take hv))
            by_cases hci : cap = i + 1
            · have him : i = m := by omega
              refine ⟨.slice (some ⟨g, 0, none⟩) (m + 1 - (i + 1)) (cap - (i + 1)), fun W' => ?_, fun ty => ?_⟩
              · rw [run_slice_l W' 22 (some ⟨g, 0, none⟩) (m + 1) cap hu .i64 ((i : Int) + 1) (by omega) (by omega), hel]
                have e1 : ((i : Int) + 1).toNat = i + 1 := by omega
                simp [sizeOf, typeInfo, hi', sliced, Result.andThen, h4, e1, hci]
              · have hcr0 : cr = [] := List.eq_nil_of_length_eq_zero (by omega)
                have h := run_copy_k (P := Tryz.prog) w5.drew 22 22 ty tPth 1 g 0 (m + 1 - (i + 1)) (cap - (i + 1)) ⟨g, i, none⟩ (m + 1 - i) (cap - i) cur tPth cr ht (by kernel_rfl) hgd (by rw [hcrl]; simp only [Nat.min_def]; split <;> omega) hsrc (by rw [hcrl, hz4]; omega) h1r
                have e9 : (cur.toList.take 0 ++ cr ++ cur.toList.drop (0 + cr.length)).toArray = c9 := by rw [hc9, hcr0]; simp
                rw [e9] at h
                rw [h]
                have : Nat.min (m + 1 - i) (m + 1 - (i + 1)) = m - i := by simp only [Nat.min_def]; split <;> omega
                rw [this]
            · refine ⟨.slice (some ⟨g, i + 1, none⟩) (m + 1 - (i + 1)) (cap - (i + 1)), fun W' => ?_, fun ty => ?_⟩
              · rw [run_slice_l W' 22 (some ⟨g, 0, none⟩) (m + 1) cap hu .i64 ((i : Int) + 1) (by omega) (by omega), hel]
                have e1 : ((i : Int) + 1).toNat = i + 1 := by omega
                simp [sizeOf, typeInfo, hi', sliced, Result.andThen, h4, e1, hci, Addr.add]
              · have h := run_copy_k (P := Tryz.prog) w5.drew 22 22 ty tPth 1 g (i + 1) (m + 1 - (i + 1)) (cap - (i + 1)) ⟨g, i, none⟩ (m + 1 - i) (cap - i) cur tPth cr ht (by kernel_rfl) hgd (by rw [hcrl]; simp only [Nat.min_def]; split <;> omega) hsrc (by rw [hcrl, hz4]; omega) h1r
                rw [← hc9] at h
                rw [h]
                have : Nat.min (m + 1 - i) (m + 1 - (i + 1)) = m - i := by simp only [Nat.min_def]; split <;> omega
                rw [this]
          have hcut2 : ∀ W' : World, (Instr.slice 22 (.slice (some ⟨g, 0, none⟩) (m + 1) cap) (some (.int .i64 (i : Int))) none none).run Tryz.prog W' = .ok (.slice (some ⟨g, i, none⟩) (m + 1 - i) (cap - i)) W' := fun W' => by
            have ht := Tryz.underlying22
            have hel : Tryz.prog.elem 22 = tPth := by simp [Program.elem, ht]
            have hu : Tryz.prog.underlying 22 = some (.slice (Tryz.prog.elem 22)) := by rw [hel]; exact ht
            obtain ⟨ifo, hi', h4⟩ := Option.map_eq_some_iff.1 (show (Tryz.prog.info? tPth).map (·.size) = some 1 from by kernel_rfl)
            rw [run_slice_l W' 22 (some ⟨g, 0, none⟩) (m + 1) cap hu .i64 (i : Int) (by omega) (by omega), hel]
            have hci : ¬ cap = i := by omega
            have ha : (⟨g, 0, none⟩ : Addr).add i = ⟨g, i, none⟩ := add_at0 g i
            simp [sizeOf, typeInfo, hi', sliced, Result.andThen, h4, hci, ha]
          have hw1 : IntKind.i64.wrap ((i : Int) + 1) = (i : Int) + 1 := by rw [IntKind.wrap_i64]; omega
          have HCP := Lib.hid hcp; have HGD := Lib.hid hgd
          clear hcp hgd hz4
          have HE6 : Hid (Ext w w5.drew) := Lib.hid HE5.out.drew
          have HEQ : Hid (w5.drew.heap = w5.heap) := Lib.hid rfl
          refine wp_region_E [7] (by kernel_rfl) ?_
          generalize w5.drew = w6 at HCP HGD HE6 HEQ ⊢
          refine E_takes (listed' := lst 8 [0, 1, 2, 3, 4, 5, 6]) [0, 1, 2, 3, 4, 5, 6] 1 (by kernel_rfl) (fun _ _ _ _ h => h) (by kernel_rfl) rfl (by kernel_rfl) ?_
          repeat (refine qIdx_step rfl ?_; go_big_quiet_step (fail); refine wpQuiet_nil ?_)
          refine qIdx_nil ?_
          refine E_bar (n := 0) (i := 7) (listed' := lst 8 [0, 1, 2, 3, 4, 5, 6, 7]) (by kernel_rfl) rfl rfl rfl (by kernel_rfl) ?_
          refine wpList_copy2 (HCP.out _) rfl rfl rfl rfl ?_
          refine E_end ?_
          simp only [Act.put, List.setIfInBounds_toArray, List.set_cons_zero, List.set_cons_succ]
          refine E_done (by kernel_rfl) ?_
          have HG9 : Hid ((w6.setRow g c9).heap[g]? = some (.cells c9 tPth (0, 0))) := Lib.hid (setRow_heap _ g cur c9 _ _ HGD.out)
          have HO9 : Hid (∀ x, x ≠ g → (w6.setRow g c9).heap[x]? = w6.heap[x]?) := Lib.hid fun x hx => setRow_other w6 g x c9 hx
          have HS9 : Hid ((w6.setRow g c9).heap.size = w6.heap.size) := Lib.hid (by simp [World.setRow])
          have HE9 : Hid (Ext w (w6.setRow g c9)) := Lib.hid ⟨HE6.out.os, HE6.out.tape, HE6.out.output, by rw [HS9.out]; exact HE6.out.size, fun x hx => (HO9.out x (by omega)).trans (HE6.out.block x hx)⟩
          clear HCP
          generalize w6.setRow g c9 = w9 at HG9 HO9 HS9 HE9 ⊢
          have HCL : Hid (Calls Tryz.prog 53 #[.slice A' (q.length + 1) c'] w9 fun en w10 => ∃ A2 c2, en = .returned (.slice A2 (q.length + 1) c2) ∧ RepD Tryz.prog w10 (fun b => S b ∨ w9.heap.size ≤ b) (dPath (cP (e :: q))) (.slice A2 (q.length + 1) c2) ∧ Ext w9 w10) := by
            refine Lib.hid (((cleanPath_a _ (Hg.out _ hpm).1).2 w9 S [_] (fun b hb => Nat.lt_of_lt_of_le (HSd.out b hb) HE9.out.size) (.cons (Hrep.out.ext HE9.out) .nil)).mono ?_)
            rintro en w10 ⟨v, r, rfl, rfl, hv, hE10⟩
            obtain ⟨A2, c2, e2, _⟩ := RepD.sl_iff.1 (show RepD Tryz.prog w10 (fun b => S b ∨ w9.heap.size ≤ b) (dPath (cP (e :: q))) v from hv)
            simp only [List.length_map, List.length_cons] at e2
            subst e2
            exact ⟨A2, c2, rfl, hv, hE10⟩
          go_wp2_with fail
          refine HCL.out.mono ?_
          rintro en w10 ⟨A2, c2, rfl, hr10, hE10⟩
          have HR10 := Lib.hid hr10; have HE10 := Lib.hid hE10
          have HG10 : Hid (w10.heap[g]? = some (.cells c9 tPth (0, 0))) := Lib.hid (hE10.heap HG9.out)
          clear hr10 hE10 HCL
          obtain ⟨x9, hx9⟩ : ∃ x, c9[i]? = some x := ⟨_, Array.getElem?_eq_getElem (by omega)⟩
          have q1 := cell_of HG10.out hx9
          have hfz : ∀ o, w10.frozen? ⟨g, o, none⟩ = false := fun o => by simp [World.frozen?, HG10.out]
          have hi1 : i < m + 1 := by omega
          have hm9 : m + 1 ≤ 9223372036854775807 := by omega
          have HK : Hid (Ext w (w10.setCell ⟨g, i, none⟩ (.slice A2 (q.length + 1) c2)) ∧ BW S w (w10.setCell ⟨g, i, none⟩ (.slice A2 (q.length + 1) c2)) (.slice (some ⟨g, 0, none⟩) (m + 1) cap) (mkW (l.take (k + 1)))) := by
            have hsm := setCell_same w10 g i (.slice A2 (q.length + 1) c2)
            have hE11 : Ext w (w10.setCell ⟨g, i, none⟩ (.slice A2 (q.length + 1) c2)) := by
              have e0 := HE9.out.trans HE10.out
              exact ⟨e0.os, e0.tape, e0.output, by simpa [World.setCell] using e0.size, fun x hx => (hsm x (by omega)).trans (e0.block x hx)⟩
            refine ⟨hE11, ?_⟩
            have hnx : mkW (l.take (k + 1)) = insAt i (e :: q) W := by rw [Htk.out, ← HW.out, Hi.out]; simp [insW, HFD.out]
            have hw6 : w6.heap.size = w5.heap.size := by rw [HEQ.out]
            have hg5 : g < w5.heap.size := (Array.getElem?_eq_some_iff.1 HZ1.out).1
            have stay : ∀ x, x ≠ g → x < w5.heap.size → (w10.setCell ⟨g, i, none⟩ (.slice A2 (q.length + 1) c2)).heap[x]? = w5.heap[x]? := fun x hx hl => by
              refine (hsm x hx).trans ((HE10.out.block x (by rw [HS9.out, hw6]; exact hl)).trans ((HO9.out x hx).trans ?_))
              rw [HEQ.out]
            rw [hnx]
            show Build _ _ _ _ _ _ _ (rowsW (insAt i (e :: q) W))
            have er : rowsW (insAt i (e :: q) W) = insAt i [dPath (cP (e :: q))] (rowsW W) := by simp only [rowsW, insAt_map]
            rw [er]
            have hel0 := HEL.out.take m
            have et : (rowsW W ++ [[dPath []]]).take m = rowsW W := List.take_left' (by rw [List.length_map, ← Hm.out])
            rw [et, Nat.mul_one] at hel0
            have hel1 : Elems (RDs Tryz.prog (w10.setCell ⟨g, i, none⟩ (.slice A2 (q.length + 1) c2)) fun b => (S b ∨ w.heap.size ≤ b) ∧ (Value.slice (some ⟨g, 0, none⟩) (m + 1) cap).ownBlock ≠ some b) 1 (rowsW W) (cs5.take m) := hel0.imp fun x cc r => by
              have r2 := (framedRDs _).lt r
              refine (framedRDs _).frame r2 (fun b hb => stay b (fun h => hb.1.2 (by rw [h]; rfl)) hb.2) fun b hb => hb.1
            have hnew : RDs Tryz.prog (w10.setCell ⟨g, i, none⟩ (.slice A2 (q.length + 1) c2)) (fun b => (S b ∨ w.heap.size ≤ b) ∧ (Value.slice (some ⟨g, 0, none⟩) (m + 1) cap).ownBlock ≠ some b) [dPath (cP (e :: q))] [.slice A2 (q.length + 1) c2] := by
              refine .cons (HR10.out.frame (fun b hb => hsm b fun h => ?_) fun b hb => ?_) .nil
              · subst h
                rcases hb with hb | hb
                · have := HSd.out b hb; omega
                · rw [HS9.out, hw6] at hb; omega
              · have hne : g ≠ b := fun h => by
                  subst h
                  rcases hb with hb | hb
                  · have := HSd.out g hb; omega
                  · rw [HS9.out, hw6] at hb; omega
                refine ⟨hb.imp id fun h => Nat.le_trans HE9.out.size h, fun h => hne ?_⟩
                injection h
            have hins := Elems.ins hel1 i hnew rfl
            refine ⟨_, ?_, fun x hx => by
              have h : g = x := by injection hx
              omega, hins⟩
            rw [insAt_length, List.length_map, ← Hm.out]
            have hlen : ((cs5.take m).take (i * 1) ++ ([Value.slice A2 (q.length + 1) c2] ++ (cs5.take m).drop (i * 1))).length = (m + 1) * 1 := by
              simp only [List.length_append, List.length_take, List.length_drop, hcl, List.length_cons, List.length_nil]; omega
            refine ⟨hlen, .inr ⟨g, cap, c9.setIfInBounds i (.slice A2 (q.length + 1) c2), rfl, Nat.zero_le _, setCell_at _ HG10.out, z2, z3, by simp [hc9s], ?_⟩⟩
            have hcur : ∀ j, j < m + 1 → cur.toList[j]? = cs5[j]? := fun j hj => by rw [← HZ5.out, List.getElem?_take, if_pos hj]
            refine List.ext_getElem? fun j => ?_
            rw [List.getElem?_take, Nat.mul_one, Nat.mul_one]
            by_cases hj : j < m + 1
            · rw [if_pos hj, Array.getElem?_toList, Array.getElem?_setIfInBounds]
              by_cases hji : i = j
              · subst hji
                rw [if_pos rfl, if_pos (by omega), List.getElem?_append_right (by simp only [List.length_take, hcl]; omega)]
                have : i - ((cs5.take m).take i).length = 0 := by simp only [List.length_take, hcl]; omega
                rw [this]; rfl
              · rw [if_neg hji, hc9]
                simp only [List.getElem?_toArray]
                by_cases hlt' : j < i
                · rw [List.append_assoc, List.getElem?_append_left (by rw [List.length_take, hcsz]; omega), List.getElem?_take, if_pos (by omega), hcur j hj, List.getElem?_append_left (by simp only [List.length_take, hcl]; omega), List.getElem?_take, if_pos hlt', List.getElem?_take, if_pos (by omega)]
                · have l1 : (cur.toList.take (i + 1)).length = i + 1 := by rw [List.length_take, hcsz]; omega
                  rw [List.append_assoc, List.getElem?_append_right (by rw [l1]; omega), l1, List.getElem?_append_left (by rw [hcrl]; omega), hcr, List.getElem?_take, if_pos (by omega), List.getElem?_drop]
                  have l2 : ((cs5.take m).take i).length = i := by simp only [List.length_take, hcl]; omega
                  rw [List.getElem?_append_right (by rw [l2]; omega), l2]
                  obtain ⟨d, hd⟩ : ∃ d, j - i = d + 1 := ⟨j - i - 1, by omega⟩
                  rw [hd]
                  simp only [List.cons_append, List.nil_append, List.getElem?_cons_succ]
                  rw [List.getElem?_drop, List.getElem?_take, if_pos (by omega)]
                  congr 1; omega
            · rw [if_neg hj, List.getElem?_eq_none]
              rw [Nat.mul_one, Nat.mul_one] at hlen
              rw [hlen]; omega
          go_wp2_with fail
          go_roundw
          case rel => exact ⟨k + 1, by omega, by go_num, HK⟩
          case measure => simp [intOf]; omega
    · have hkn : k = n := by omega
      subst hkn
      obtain ⟨hE, hB⟩ := hI.out
      have e : l.take k = l := List.take_of_length_le (by rw [Hn.out]; exact Nat.le_refl _)
      rw [e] at hB
      have hlenW : (mkW l).length ≤ k := by have := mkW_len k l; rw [e] at this; exact this
      have hd := BW.dat2 hB (by omega)
      have HD := Lib.hid hd
      clear hd hB hI
      go_wp2
      go_ret
      exact ⟨_, rfl, HD.out, hE⟩
theorem setOf_a (l : List (List EV)) (hl : l.length ≤ 2147483647) (hg : ∀ p ∈ l, PthS p ∧ ∀ e ∈ p, GoodE e) : ACalls Tryz.prog 12 [.c (.d (dPaths l))] (fun r => r = .c (.d (dPaths ((mkW l).map cP)))) := by
  refine ⟨⟨_, Tryz.func12, by kernel_rfl, rfl⟩, fun w S vs hS ha => ?_⟩
  obtain ⟨v, vs, rfl, h1, ha⟩ := ha.inv
  cases ha.inv0
  refine (setOf_raw l w S v h1 hS hl hg).mono ?_
  rintro en w' ⟨u, rfl, hr, hE⟩
  exact ⟨u, _, rfl, rfl, hr, hE⟩
end Go.Smd
end
section
set_option linter.unusedSimpArgs false
set_option maxRecDepth 100000
set_option maxHeartbeats 8000000
namespace Go.Smd
open Go.RowKit Go.Proofs
theorem paths_ok {l : List (List EV)} (h : okD Tryz.prog (dPaths l)) : l.length * 24 ≤ 140737488351232 ∧ ∀ p ∈ l, PthS p ∧ ∀ e ∈ p, FitsE e := by
  obtain ⟨h1, h2⟩ := okD_sl h
  simp at h1
  refine ⟨by omega, fun p hp => ?_⟩
  have k := path_ok ((h2 [dPath p] (List.mem_map.2 ⟨p, hp, rfl⟩)).2 (dPath p) (by simp))
  exact ⟨⟨k.1, fun e he => ⟨(k.2 e he).1, (k.2 e he).2.2.1⟩⟩, fun e he => (k.2 e he).2.2.2⟩
theorem mkW_le (l : List (List EV)) : (mkW l).length ≤ l.length := by
  have := mkW_len l.length l
  rwa [List.take_of_length_le (Nat.le_refl _)] at this
theorem implSetSize_a (l : List (List EV)) (hl : l.length ≤ 2147483647) (hp : ∀ p ∈ l, PthS p ∧ ∀ e ∈ p, GoodE e) : ACalls Tryz.prog 13 [.c (.d (dPaths l))] (fun r => r = aI (mkW l).length) := by
  have hg : ∀ p ∈ l, ∀ e ∈ p, GoodE e := fun p hm => (hp p hm).2
  have c1 := toSet_a l hl fun p hm => ⟨(hp p hm).1.1, (hp p hm).2⟩
  obtain ⟨_, hsz, _⟩ := mk_same _ l rfl hg
  have hle := mkW_le l
  have c2 := psSize_a l.length (by omega) (mkP l) (mkP_ok _ l rfl hg) (by omega)
  unfold CSize at c2
  rw [hsz] at c2
  generalize psD (mkP l) = X at c1 c2
  refine acalls_ex [] Tryz.func13 (by kernel_rfl) rfl Tryz.ntmps13 Tryz.results13 (Nat.le_of_ble_eq_true (by kernel_rfl)) ?_; intro hok w0 S0
  clear hok
  (repeat' (first | (with_reducible refine br_d (fun _ => ?_) (fun _ => ?_)) | (with_reducible refine br_i (fun _ => ?_) (fun _ => ?_)) | (with_reducible refine nd_v (c1) (by first | rfl | (simp -dsimp; done)) ?_) | (with_reducible refine nw_v (c1) rfl (by first | rfl | (simp -dsimp; done)) (by first | rfl | (simp -dsimp; done)) ?_) | (with_reducible refine nd_v (c2) (by first | rfl | (simp -dsimp; done)) ?_) | (with_reducible refine nw_v (c2) rfl (by first | rfl | (simp -dsimp; done)) (by first | rfl | (simp -dsimp; done)) ?_) | (with_reducible refine dn_i follows_any (by kernel_rfl) ?_) | (with_reducible exact done_eq rfl) | (simp -dsimp))); (all_goals try with_reducible refine done_eq ?_)
theorem implSetEmpty_a (l : List (List EV)) (hl : l.length ≤ 2147483647) (hp : ∀ p ∈ l, PthS p ∧ ∀ e ∈ p, GoodE e) : ACalls Tryz.prog 14 [.c (.d (dPaths l))] (fun r => r = aV (.bool (decide ((mkW l).length = 0)))) := by
  have hg : ∀ p ∈ l, ∀ e ∈ p, GoodE e := fun p hm => (hp p hm).2
  have c1 := toSet_a l hl fun p hm => ⟨(hp p hm).1.1, (hp p hm).2⟩
  obtain ⟨_, hsz, _⟩ := mk_same _ l rfl hg
  have c2 := psEmpty_a l.length (by omega) (mkP l) (mkP_ok _ l rfl hg)
  unfold CEmpty at c2
  have e : (mkP l).none = decide ((mkW l).length = 0) := by
    rw [Bool.eq_iff_iff, PS.none_iff, hsz, decide_eq_true_eq]
  rw [e] at c2
  generalize decide ((mkW l).length = 0) = B at c2 ⊢
  generalize psD (mkP l) = X at c1 c2
  refine acalls_ex [] Tryz.func14 (by kernel_rfl) rfl Tryz.ntmps14 Tryz.results14 (Nat.le_of_ble_eq_true (by kernel_rfl)) ?_; intro hok w0 S0
  clear hok
  (repeat' (first | (with_reducible refine br_d (fun _ => ?_) (fun _ => ?_)) | (with_reducible refine br_i (fun _ => ?_) (fun _ => ?_)) | (with_reducible refine nd_v (c1) (by first | rfl | (simp -dsimp; done)) ?_) | (with_reducible refine nw_v (c1) rfl (by first | rfl | (simp -dsimp; done)) (by first | rfl | (simp -dsimp; done)) ?_) | (with_reducible refine nd_v (c2) (by first | rfl | (simp -dsimp; done)) ?_) | (with_reducible refine nw_v (c2) rfl (by first | rfl | (simp -dsimp; done)) (by first | rfl | (simp -dsimp; done)) ?_) | (with_reducible refine dn_i follows_any (by kernel_rfl) ?_) | (with_reducible exact done_eq rfl) | (simp -dsimp))); (all_goals try with_reducible refine done_eq ?_)
theorem fnSetSize_a (l : List (List EV)) : ACalls Tryz.prog 3 [.c (.d (dPaths l))] (fun r => r = aV (.bool true)) := by
  refine acalls_ex [] Tryz.func3 (by kernel_rfl) rfl Tryz.ntmps3 Tryz.results3 (Nat.le_of_ble_eq_true (by kernel_rfl)) ?_; intro hok w0 S0
  have kl := paths_ok (hok (.c (.d (dPaths l))) (by simp))
  clear hok
  have b1 : l.length ≤ 9223372036854775807 := by omega
  by_cases la : l.length ≤ 2147483647
  · have n1 : ¬ (2147483647 < (l.length : Int)) := by omega
    have t1 := orderlyPaths_g l (by omega) fun p hp => ⟨(kl.2 p hp).1.1, (kl.2 p hp).1.2⟩
    (repeat' (first | (with_reducible refine br_d (fun _ => ?_) (fun _ => ?_)) | (with_reducible refine br_i (fun _ => ?_) (fun _ => ?_)) | ((with_reducible refine nd_c (t1) (by first | rfl | (simp -dsimp [b1, n1]; done)) ?_); rintro _ ⟨x, rfl, hx⟩ _) | ((with_reducible refine nw_c (t1) rfl (by first | rfl | (simp -dsimp [b1, n1]; done)) (by first | rfl | (simp -dsimp [b1, n1]; done)) ?_); rintro _ ⟨x, rfl, hx⟩ _) | (with_reducible refine dn_i follows_any (by kernel_rfl) ?_) | (with_reducible exact done_eq rfl) | (simp -dsimp [b1, n1]))); (all_goals try with_reducible refine done_eq ?_)
    have good := hx (by simpa using ‹(!x) = false›)
    have hg : ∀ p ∈ l, PthS p ∧ ∀ e ∈ p, GoodE e := fun p hp => ⟨(kl.2 p hp).1, fun e he => ⟨(kl.2 p hp).1.2 e he, (kl.2 p hp).2 e he, good p hp e he⟩⟩
    have c1 := setOf_a l la hg
    have c2 := implSetSize_a l la hg
    have c3 := implSetEmpty_a l la hg
    have hle := mkW_le l
    have hmap : ((mkW l).map cP).length = (mkW l).length := List.length_map ..
    generalize (mkW l).map cP = W at c1 hmap
    rw [← hmap] at c2 c3 hle
    have b2 : W.length ≤ 9223372036854775807 := by omega
    (repeat' (first | (with_reducible refine br_d (fun _ => ?_) (fun _ => ?_)) | (with_reducible refine br_i (fun _ => ?_) (fun _ => ?_)) | (with_reducible refine nd_v (c1) (by first | rfl | (simp -dsimp [b1, b2]; done)) ?_) | (with_reducible refine nw_v (c1) rfl (by first | rfl | (simp -dsimp [b1, b2]; done)) (by first | rfl | (simp -dsimp [b1, b2]; done)) ?_) | (with_reducible refine nd_v (c2) (by first | rfl | (simp -dsimp [b1, b2]; done)) ?_) | (with_reducible refine nw_v (c2) rfl (by first | rfl | (simp -dsimp [b1, b2]; done)) (by first | rfl | (simp -dsimp [b1, b2]; done)) ?_) | (with_reducible refine nd_v (c3) (by first | rfl | (simp -dsimp [b1, b2]; done)) ?_) | (with_reducible refine nw_v (c3) rfl (by first | rfl | (simp -dsimp [b1, b2]; done)) (by first | rfl | (simp -dsimp [b1, b2]; done)) ?_) | (with_reducible refine dn_i follows_any (by kernel_rfl) ?_) | (with_reducible exact done_eq rfl) | (simp -dsimp [b1, b2]))); (all_goals try with_reducible refine done_eq ?_)
  · have n1 : (2147483647 < (l.length : Int)) := by omega
    (repeat' (first | (with_reducible refine br_d (fun _ => ?_) (fun _ => ?_)) | (with_reducible refine br_i (fun _ => ?_) (fun _ => ?_)) | (with_reducible refine dn_i follows_any (by kernel_rfl) ?_) | (with_reducible exact done_eq rfl) | (simp -dsimp [b1, n1]))); (all_goals try with_reducible refine done_eq ?_)
end Go.Smd
end
section
namespace Go.Proofs.YtannholebjdckaaGreat
open Go.Smd Go.RowKit Go.Proofs Go.ChangeShapes Go.WideShapes Go.ChangeAt
set_option maxRecDepth 100000 in
theorem setSize_lifted (os : Os) (started : os.Started) (H : Type) (enc : TypeId × Value → H) :
    ReturnsInHanded {} Tryz.checked os 3 .any (Rows.fnSetSizeSpec.pre6 enc Tryz.prog Tryz.f3 Rows.fnSetSizeRow.domain false) (Rows.fnSetSizeSpec.post enc Tryz.prog Tryz.f3 false true false false) := by
  refine law_lift Tryz.func3 rfl rfl (by decide +kernel) (by kernel_rfl) started (fun ds h => ?_)
    (ChangeSpec.witness6 (enc := enc) (C := Tryz.checked) false ⟨#[], #[.slice none 0 0], []⟩ 8 (by kernel_rfl) (by kernel_rfl) (by kernel_rfl) (by kernel_rfl)) ?_
  · match ds, h with
    | [d1], _ => rfl
  · intro W args ds p hA hw hval
    obtain ⟨_, hval⟩ := hval
    rw [Tryz.params3] at hA hw hval
    obtain ⟨v1, vs1, d1, ds1, p1, q1, e1, rfl, rfl, t1, hA⟩ := trodAll_cons hA
    obtain ⟨rfl, rfl, rfl⟩ := trodAll_nil hA
    have ea : args = #[v1] := by rw [← Array.toArray_toList (xs := args), e1]
    subst ea
    simp only [DataW.weightsEach] at hw
    have hw : Light (DataW.weights Tryz.prog 22 d1 ++ []) := hw
    have w1 := hw.append.1
    obtain ⟨_, _, _, h1⟩ := okWide_slice Tryz.underlying22 (hval 0 22 v1 rfl rfl)
    obtain ⟨a, _, e2, ra⟩ := open_one t1 w1 (fun n => opens_slice (E := 26) (e := fun p : List EV => [dPath p]) (by kernel_rfl) (fun s => by kernel_rfl) fun m _ => opens_slice (E := 33) (e := evD) (by kernel_rfl) (fun s => by simp) fun m _ => opens_elem) (fun l => ⟨_, rfl⟩) (fun cs h => by rw [h1] at h; cases h)
    cases e2
    exact law_walk (fnSetSize_a a) (.cons ra .nil)
theorem setSize_holds : Rows.FnSetSizeSaid :=
  OpenClaim.holds_of_wide 3 Tryz.f3 rfl rfl rfl rfl rfl rfl rfl ⟨rfl, rfl, rfl, rfl, rfl⟩ rfl rfl rfl rfl rfl (by kernel_rfl) Tryz.func3 (by kernel_rfl)
    (of_decide_eq_true (by kernel_rfl)) (by unfold Func.isWrapper; first | (rw [if_pos (by decide +kernel)]; kernel_rfl) | (rw [if_neg (by decide +kernel)]; exact ⟨rfl, rfl⟩))
    (fun os started H enc _ => setSize_lifted os started H enc)
end Go.Proofs.YtannholebjdckaaGreat
end
#print axioms Go.Proofs.YtannholebjdckaaGreat.setSize_holds
