/- impl.fromTree at a map. -/
import Derived.Test.YtphldfnnjoehpaaFromT
set_option linter.unusedSimpArgs false
namespace Go.Smd
open Go.RowKit Go.Proofs Go.Maps Go.WideElems

theorem entry_inj {es : List MapEntry} {ks : List ByteArray} (hk : es.map (·.key) = ks.map Value.string) (hnd : ks.Nodup) {x y : MapEntry} (hx : x ∈ es) (hy : y ∈ es) (h : x.key = y.key) : x = y := by
  have hp : es.Pairwise fun a b => a.key ≠ b.key := by
    have : (es.map (·.key)).Pairwise (· ≠ ·) := by rw [hk]; exact List.Pairwise.map _ (fun a b h e => h (by cases e; rfl)) hnd
    exact List.pairwise_map.1 this
  clear hk hnd
  induction es with
  | nil => cases hx
  | cons e es ih =>
    rw [List.pairwise_cons] at hp
    rcases List.mem_cons.1 hx with h1 | h1 <;> rcases List.mem_cons.1 hy with h2 | h2
    · rw [h1, h2]
    · subst h1; exact (hp.1 y h2 h).elim
    · subst h2; exact (hp.1 x h1 h.symm).elim
    · exact ih h1 h2 hp.2
theorem lookup_of_map {r clock : Nat} {es : List MapEntry} {ks : List ByteArray} (hm : ks.length ≤ 140737488351232) (hk : es.map (·.key) = ks.map Value.string)
    (hs : ∀ k ∈ ks, k.size ≤ 140737488351232) (hb : (es.map (·.born)).Pairwise (· < ·)) (hbc : ∀ e ∈ es, e.born < clock) (hnd : ks.Nodup) {k : ByteArray} {e : MapEntry} (he : e ∈ es) (hek : e.key = .string k) (hkin : k ∈ ks) :
    ∀ W : World, W.heap[r]? = some (.map es.toArray clock) → (Instr.lookup 154 (.map (some r)) (.string k) false).run Try.prog W = .ok e.val W := fun W hW => by
  obtain ⟨D, ⟨es', clock', hr', F, _, _⟩, -⟩ := owns_of_map hW hm hk hs hb hbc hnd
  rw [hW] at hr'
  cases hr'
  have hz : (zeroValue 20).run Try.prog W = .ok .nilIface W := by
    obtain ⟨i, hi, hz, _⟩ := info_parts info_any
    simp [zeroValue, typeInfo, hi, hz]
  rcases Maps.fit_look false (string_keyed Try.underlying9) Try.underlying154 hz hW F (keyOf_str (hs k hkin)) with ⟨_, hno, _⟩ | ⟨e0, y, h0, h1, hrun, _⟩
  · exact absurd hek (hno e (by simpa using he))
  · have := entry_inj hk hnd (by simpa using h0) he (h1.trans hek.symm)
    subst this
    simpa using hrun

theorem RepT.map_inv {w : World} {S : Nat → Prop} {m : List (ByteArray × Tree)} {v : Value} (h : RepT w S (.map m) v) (hnd : (m.map (·.1)).Nodup) : ∃ r es clock, v = .iface 154 (.map (some r)) ∧ w.heap[r]? = some (.map (List.toArray es) clock) ∧ m.length ≤ 140737488351232 ∧
    es.map (·.key) = (m.map (·.1)).map Value.string ∧ (∀ k ∈ m.map (·.1), k.size ≤ 140737488351232) ∧ (es.map (·.born)).Pairwise (· < ·) ∧ (∀ e ∈ es, e.born < clock) ∧
    ∀ p ∈ m, ∃ y, RepT w S p.2 y ∧ ∀ W : World, W.heap[r]? = some (.map es.toArray clock) → (Instr.lookup 154 (.map (some r)) (.string p.1) false).run Try.prog W = .ok y W := by
  cases h with
  | @map _ _ r es clock hS hr hm hk hs hb hbc hv =>
    have hk' : es.map (·.key) = (m.map (·.1)).map Value.string := by rw [hk]; simp
    have hs' : ∀ k ∈ m.map (·.1), k.size ≤ 140737488351232 := fun k hkk => by obtain ⟨p, hp, rfl⟩ := List.mem_map.1 hkk; exact hs p hp
    refine ⟨r, es, clock, rfl, hr, hm, hk', hs', hb, hbc, fun p hp => ?_⟩
    obtain ⟨j, hj, rfl⟩ := List.getElem_of_mem hp
    have hl : es.length = m.length := by simpa using congrArg List.length hk'
    have hje : j < es.length := by omega
    refine ⟨es[j].val, (hv j m[j] es[j] (List.getElem?_eq_getElem hj) (List.getElem?_eq_getElem hje)).mono fun b hb => hb.1, ?_⟩
    refine lookup_of_map (by simpa using hm) hk' hs' hb hbc hnd (List.getElem_mem hje) ?_ (List.mem_map_of_mem hp)
    have := congrArg (fun q => q[j]?) hk'
    simp only [List.getElem?_map, List.getElem?_eq_getElem hje, List.getElem?_eq_getElem hj, Option.map_some] at this
    exact Option.some.inj this
theorem nodup_fst {m : List (ByteArray × Tree)} (hnd : (m.map (·.1)).Nodup) {k : ByteArray} {t t' : Tree} (h : (k, t) ∈ m) (h' : (k, t') ∈ m) : t = t' := by
  have hp : m.Pairwise fun a b => a.1 ≠ b.1 := List.pairwise_map.1 hnd
  clear hnd
  induction m with
  | nil => cases h
  | cons e m ih =>
    rw [List.pairwise_cons] at hp
    rcases List.mem_cons.1 h with h1 | h1 <;> rcases List.mem_cons.1 h' with h2 | h2
    · rw [← h1] at h2; cases h2; rfl
    · subst h1; exact (hp.1 _ h2 rfl).elim
    · subst h2; exact (hp.1 _ h1 rfl).elim
    · exact ih h1 h2 hp.2

/-- Like LSt, beside a row of keys that stays. -/
structure LSm (w wk wr : World) (kd : Int) (kv lv : Value) (ls : List GV) : Prop where
  ext : Ext w wr
  lt : w.heap.size < wk.heap.size
  szk : wk.heap.size ≤ wr.heap.size
  out : wr.heap[w.heap.size]? = some (.cells #[.int .i64 kd, .int .i64 0, .float .f64 0, .string ⟨#[]⟩, kv, lv] 26 (0, 0))
  mid : ∀ b, w.heap.size < b → b < wk.heap.size → wr.heap[b]? = wk.heap[b]?
  bl : Build RG 26 6 (wk.heap.size ≤ ·) (wk.heap.size ≤ ·) wr lv ls
theorem LSm.grow {w wk wr wr' : World} {kd : Int} {kv lv : Value} {ls : List GV} (h : LSm w wk wr kd kv lv ls) (e : Ext wr wr') : LSm w wk wr' kd kv lv ls :=
  ⟨h.ext.trans e, h.lt, by have := e.size; have := h.szk; omega, e.heap h.out, fun b h1 h2 => (e.block b (by have := h.szk; omega)).trans (h.mid b h1 h2), h.bl.ext framedRG e⟩
theorem LSm.own {w wk wr : World} {kd : Int} {kv lv : Value} {ls : List GV} (h : LSm w wk wr kd kv lv ls) {b : Nat} (hb : lv.ownBlock = some b) : wk.heap.size ≤ b ∧ b < wr.heap.size := ⟨h.bl.row_in hb, h.bl.row_lt hb⟩
theorem LSm.push {w wk wr : World} {kd : Int} {kv lv : Value} {ls : List GV} (h : LSm w wk wr kd kv lv ls) {v : GV} {cs : List Value} (hv : RepGV (fun b => wk.heap.size ≤ b ∧ lv.ownBlock ≠ some b) wr v cs) {N : Nat} (hN : ls.length + 1 = N) (hn : N * 88 ≤ 140737488355328) :
    ∃ lv' w3, (Builtin.append_ #[24, 24] 24 #[lv, .slice (some ⟨wr.heap.size, 0, none⟩) 1 1]).run Try.prog (wr.alloc (.cells cs.toArray 26)) = .ok lv' w3 ∧ (∃ A' c', lv' = .slice A' N c') ∧ w3.cell? ⟨w.heap.size, 5, none⟩ = some lv ∧ w3.frozen? ⟨w.heap.size, 5, none⟩ = false ∧ LSm w wk (w3.setCell ⟨w.heap.size, 5, none⟩ lv') kd kv lv' (ls ++ [v]) := by
  subst hN
  have hlt := h.lt; have hszk := h.szk
  obtain ⟨lv', w3, hrun, hB, hg, _, hsl⟩ := Build.push (P := Try.prog) (t := 24) (ty := 24) framedRG Try.underlying24 info_val rfl (by omega) (by omega) h.bl (y := v) (ys := cs) (RepGV.mono hv fun b hb => hb) hv.length hv.ones (by omega) hn
  have hout : w3.heap[w.heap.size]? = _ := (hg.block w.heap.size (by omega) fun hc => by have := (h.own hc.symm).1; omega).trans h.out
  refine ⟨lv', w3, hrun, hsl, cell_of hout (i := 5) rfl, by simp [World.frozen?, hout], ?_, hlt, ?_, setCell_at lv' hout, fun b h1 h2 => ?_, ?_⟩
  · exact Ext.setCell (Below.grown h.ext hg h.ext.size fun b hb => by have := (h.own hb).1; omega) (Nat.le_refl _) _
  · have := hg.size; simp [World.setCell]; omega
  · exact (setCell_same w3 _ 5 lv' b (by omega)).trans ((hg.block b (by omega) fun hc => by have := (h.own hc.symm).1; omega).trans (h.mid b h1 h2))
  · exact hB.frame framedRG (fun b hb => setCell_same w3 _ 5 _ b (by have := hb; omega)) (fun b hb => setCell_same w3 _ 5 _ b (by have := hb.1; omega)) (fun _ h => h) fun _ h => h
end Go.Smd
