/- What a Go map of trees has under a key; its size. Over any program, but for trees. -/
import Derived.Test.YtphldfnnjoehpaaTree
import Derived.Maps.RangeWalk
import Derived.Maps.Keyed
set_option linter.unusedSimpArgs false
namespace Go.Smd
open Go.RowKit Go.Maps Go.WideElems

def mget (m : List (ByteArray × Tree)) (k : ByteArray) : Option Tree := (m.find? fun p => decide (p.1 = k)).map (·.2)
/-- A map type from strings to any. -/
def _root_.Go.Program.treeMap (P : Program) (T : TypeId) : Bool := match P.underlying T with
  | some (.map K E) => (match P.underlying K with | some .string => true | _ => false) && (match P.info? E with | some i => (match i.zero with | some .nilIface => true | _ => false) | none => false)
  | _ => false
section
variable {P : Program}
theorem run_len_mp0 {t k e : TypeId} (ht : P.underlying t = some (.map k e)) (ty : TypeId) {r : Nat} {es : Array MapEntry} {clock : Nat} {w : World} (h : w.heap[r]? = some (.map es clock)) : (Builtin.len_ #[t] ty #[.map (some r)]).run P w = .ok (.int .i64 es.size) w := by
  simp [Builtin.len_, run_underlying ht, goInt, MapKept.run_getObj_map h, Result.andThen, go_sem]
/-- Every element reads as itself. -/
def HeldV (v : Value) : Option (DataW Value × List MemPlace) := some (.held v, [])
theorem run_lookup_mp {w : World} {S : Nat → Prop} {T : TypeId} {m : List (ByteArray × Tree)} {x : Value} (hT : P.treeMap T = true) (h : RepT w S (.map m) (.iface 154 x)) (hnd : (m.map (·.1)).Nodup) {k : ByteArray} (hk : k.size ≤ 140737488351232) (ok : Bool) :
    ∃ y, RepT w S ((mget m k).getD .nil) y ∧ (Instr.lookup T x (.string k) ok).run P w = .ok (if ok then .tuple #[y, .bool (mget m k).isSome] else y) w := by
  unfold Go.Program.treeMap at hT
  split at hT
  case h_2 => cases hT
  next K E hu =>
  simp only [Bool.and_eq_true] at hT
  obtain ⟨hK, hE⟩ := hT
  have hK : P.underlying K = some .string := by
    revert hK
    cases P.underlying K with
    | none => intro h; cases h
    | some d => cases d <;> intro h <;> first | rfl | cases h
  have hz : (zeroValue E).run P w = .ok .nilIface w := by
    revert hE
    cases hi : P.info? E with
    | none => intro h; cases h
    | some i =>
      cases hzz : i.zero with
      | none => intro h; simp only [hzz] at h; cases h
      | some z => cases z <;> intro h <;> simp only [hzz] at h <;> first | (simp [zeroValue, typeInfo, hi, hzz]; done) | cases h
  cases h with
  | @map _ _ r es clock hS hr hm hkey hs hb hbc hv =>
    have hl : es.length = m.length := by simpa using congrArg List.length hkey
    have keyOfS : ∀ s : ByteArray, s.size ≤ 140737488351232 → keyOf P K (.string s) = some (Lit.string s.data.toList) := fun s h => by
      have h2 : s.size ≤ maxLen := by unfold maxLen; omega
      simp [keyOf, hK, mapKey, h2]
    have hrd : ∀ x ∈ es, ∃ s, x.key = .string s ∧ rd P K HeldV x = some (Lit.string s.data.toList, .held x.val) := fun x hx => by
      have : x.key ∈ m.map fun p => Value.string p.1 := by rw [← hkey]; exact List.mem_map_of_mem hx
      obtain ⟨p, hp, he⟩ := List.mem_map.1 this
      exact ⟨p.1, he.symm, by simp [rd, ← he, keyOfS p.1 (hs p hp), HeldV]⟩
    have hsz : es.toArray.size ≤ maxLen := by (unfold maxLen; simp; omega)
    have hfit : Fit P K HeldV es.toArray clock := by
      refine ⟨hsz, ⟨by simpa using hbc, ?_, ?_⟩, fun x hx => ?_⟩
      · exact hb.imp fun h => Nat.ne_of_lt h
      · simp only [hkey]
        exact List.pairwise_map.2 ((List.pairwise_map.1 hnd).imp fun h e => h (by injection e))
      · obtain ⟨s, _, h3⟩ := hrd x (by simpa using hx)
        exact ⟨_, h3⟩
    rcases Maps.fit_look ok (string_keyed hK) hu hz hr hfit (keyOfS k hk) with ⟨hrun, hno, _⟩ | ⟨e0, y, h0, h1, hrun, _⟩
    · have hnone : mget m k = none := by
        unfold mget
        rw [Option.map_eq_none_iff, List.find?_eq_none]
        intro p hp
        simp only [decide_eq_true_eq]
        rintro rfl
        obtain ⟨j, hj, rfl⟩ := List.getElem_of_mem hp
        have hje : j < es.length := by omega
        refine hno es[j] (by simp) ?_
        have := congrArg (fun q => q[j]?) hkey
        simpa [List.getElem?_map, List.getElem?_eq_getElem hje, List.getElem?_eq_getElem hj] using this
      rw [hnone]
      exact ⟨.nilIface, .nil, by simpa using hrun⟩
    · have h0' : e0 ∈ es := by simpa using h0
      obtain ⟨j, hje, rfl⟩ := List.getElem_of_mem h0'
      have hj : j < m.length := by omega
      have hkj : m[j].1 = k := by
        have := congrArg (fun q => q[j]?) hkey
        simp only [List.getElem?_map, List.getElem?_eq_getElem hje, List.getElem?_eq_getElem hj, Option.map_some] at this
        rw [h1] at this
        injection (Option.some.inj this) with h; exact h.symm
      have hsome : mget m k = some m[j].2 := by
        unfold mget
        have : m.find? (fun p => decide (p.1 = k)) = some m[j] := by
          rw [List.find?_eq_some_iff_getElem]
          refine ⟨by simpa using hkj, j, hj, rfl, fun i hi => ?_⟩
          have := List.pairwise_iff_getElem.1 (List.pairwise_map.1 hnd) i j (by omega) hj hi
          simp only [Bool.not_eq_eq_eq_not, Bool.not_true, decide_eq_false_iff_not]
          rw [← hkj]; exact this
        rw [this]; rfl
      rw [hsome]
      refine ⟨es[j].val, (hv j m[j] es[j] (List.getElem?_eq_getElem hj) (List.getElem?_eq_getElem hje)).mono fun b hb => hb.1, ?_⟩
      simpa using hrun
/-- 'for k, v := range m' under way: the keys that are left, and the one that is at hand. -/
def ItRep (S : Nat → Prop) (w : World) (m : List (ByteArray × Tree)) (left : List ByteArray) (cur : Option ByteArray) (v : Value) : Prop :=
  ∃ b r es clock since seen c0, v = .pointer (some ⟨b, 0, none⟩) ∧ (m.map (·.1)).Nodup ∧ RepT w S (.map m) (.iface 154 (.map (some r))) ∧ w.heap[r]? = some (.map es clock) ∧ w.heap[b]? = some (.mapIter (some r) since seen c0) ∧
    (es.toList.map (·.born)).Nodup ∧ (∀ x ∈ es.toList, x.born < since) ∧ since ≤ c0 ∧ since ≤ clock ∧ ((leftOf es seen).toList.map (·.key)) = left.map Value.string ∧ ∀ k, cur = some k → ∃ e seen', seen = Array.push seen' e.born ∧ c0 = clock ∧ e ∈ es.toList ∧ e.key = .string k
theorem ItRep.frame {S S' : Nat → Prop} {w w' : World} {m : List (ByteArray × Tree)} {left : List ByteArray} {cur : Option ByteArray} {v : Value} (h : ItRep S w m left cur v) (hS : ∀ b, S b → S' b) (e : Same S w w') (hb : ∀ b, v = .pointer (some ⟨b, 0, none⟩) → w'.heap[b]? = w.heap[b]?) : ItRep S' w' m left cur v := by
  obtain ⟨b, r, es, clock, since, seen, c0, h1, hn, h2, h3, h4, rest⟩ := h
  have hSr : S r := by cases h2 with | map hS => exact hS
  exact ⟨b, r, es, clock, since, seen, c0, h1, hn, h2.frame e hS, (e r hSr).trans h3, (hb b h1).trans h4, rest⟩
/-- An entry of a map in memory: what the map has under its key. -/
theorem entry_get {w : World} {S : Nat → Prop} {m : List (ByteArray × Tree)} {r : Nat} {es : Array MapEntry} {clock : Nat} (h : RepT w S (.map m) (.iface 154 (.map (some r)))) (hr : w.heap[r]? = some (.map es clock)) (hnd : (m.map (·.1)).Nodup) {e : MapEntry} (he : e ∈ es.toList) :
    ∃ k, e.key = .string k ∧ k.size ≤ 140737488351232 ∧ RepT w S ((mget m k).getD .nil) e.val := by
  cases h with
  | @map _ _ r es' clock' hS hr' hm hkey hs hb hbc hv =>
    rw [hr] at hr'; cases hr'
    have he : e ∈ es' := by simpa using he
    have hl : es'.length = m.length := by simpa using congrArg List.length hkey
    obtain ⟨j, hje, rfl⟩ := List.getElem_of_mem he
    have hj : j < m.length := by omega
    have hkj : es'[j].key = Value.string m[j].1 := by
      have := congrArg (fun q => q[j]?) hkey
      simpa [List.getElem?_map, List.getElem?_eq_getElem hje, List.getElem?_eq_getElem hj] using this
    have hsome : mget m m[j].1 = some m[j].2 := by
      unfold mget
      have : m.find? (fun p => decide (p.1 = m[j].1)) = some m[j] := by
        rw [List.find?_eq_some_iff_getElem]
        refine ⟨by simp, j, hj, rfl, fun i hi => ?_⟩
        have := List.pairwise_iff_getElem.1 (List.pairwise_map.1 hnd) i j (by omega) hj hi
        simpa using this
      rw [this]; rfl
    exact ⟨m[j].1, hkj, hs _ (List.getElem_mem hj), by rw [hsome]; exact (hv j m[j] es'[j] (List.getElem?_eq_getElem hj) (List.getElem?_eq_getElem hje)).mono fun b hb => hb.1⟩
theorem map_facts {w : World} {S : Nat → Prop} {m : List (ByteArray × Tree)} {x : Value} (h : RepT w S (.map m) (.iface 154 x)) : ∃ r es clock, x = .map (some r) ∧ w.heap[r]? = some (.map es clock) ∧ es.toList.map (·.key) = m.map (fun p => Value.string p.1) ∧ (es.toList.map (·.born)).Nodup ∧ ∀ e ∈ es.toList, e.born < clock := by
  cases h with
  | @map _ _ r es clock hS hr hm hkey hs hb hbc hv => exact ⟨r, es.toArray, clock, rfl, hr, by simpa using hkey, (hb.imp fun h => Nat.ne_of_lt h : List.Pairwise (· ≠ ·) (es.map (·.born))), by simpa using hbc⟩
theorem ItRep.start {S : Nat → Prop} {w : World} {T : TypeId} {m : List (ByteArray × Tree)} {x : Value} (hT : P.treeMap T = true) (h : RepT w S (.map m) (.iface 154 x)) (hnd : (m.map (·.1)).Nodup) :
    ∃ o, (Instr.range T x).run P w = .ok (.pointer (some ⟨w.heap.size, 0, none⟩)) (w.alloc o) ∧ ItRep S (w.alloc o) m (m.map (·.1)) none (.pointer (some ⟨w.heap.size, 0, none⟩)) := by
  obtain ⟨r, es, clock, rfl, hr, hk, hb, hc⟩ := map_facts h
  unfold Go.Program.treeMap at hT
  split at hT
  case h_2 => cases hT
  next K E hu =>
  have hrun := run_range_map (P := P) w T K E r es clock hu hr
  have hlt : r < w.heap.size := (Array.getElem?_eq_some_iff.1 hr).1
  have e : Ext w (w.alloc (.mapIter (some r) clock #[] clock)) := (Ext.refl w).alloc _
  refine ⟨.mapIter (some r) clock #[] clock, hrun, w.heap.size, r, es, clock, clock, #[], clock, rfl, hnd, h.ext e, e.heap hr, heap_alloc_new w _, hb, hc, Nat.le_refl _, Nat.le_refl _, ?_, fun k hk => by cases hk⟩
  have : (leftOf es #[]).toList = es.toList := by simp [leftOf]
  rw [this, hk]; simp
theorem inj_of_map {α β : Type} {f : α → β} : ∀ {l : List α}, (l.map f).Nodup → ∀ {x y : α}, x ∈ l → y ∈ l → f x = f y → x = y
  | [], _, _, _, hx, _, _ => by cases hx
  | z :: l, hn, x, y, hx, hy, e => by
    rw [List.map_cons, List.nodup_cons] at hn
    rcases List.mem_cons.1 hx with hx2 | hx2 <;> rcases List.mem_cons.1 hy with hy2 | hy2
    · rw [hx2, hy2]
    · subst hx2; exact absurd (by rw [e]; exact List.mem_map_of_mem hy2) hn.1
    · subst hy2; exact absurd (by rw [← e]; exact List.mem_map_of_mem hx2) hn.1
    · exact inj_of_map hn.2 hx2 hy2 e
theorem ItRep.next {S : Nat → Prop} {w : World} {m : List (ByteArray × Tree)} {left : List ByteArray} {cur : Option ByteArray} {v : Value} (h : ItRep S w m left cur v) (hS : ∀ b, S b → v ≠ .pointer (some ⟨b, 0, none⟩)) (ty : TypeId) :
    (left = [] ∧ (Instr.next v false ty).run P w = .ok (.tuple #[.bool false]) w) ∨
    ∃ k y w' b, k ∈ left ∧ k.size ≤ 140737488351232 ∧ v = .pointer (some ⟨b, 0, none⟩) ∧ RepT w S ((mget m k).getD .nil) y ∧ (Instr.next v false ty).run P w = .ok (.tuple #[.bool true, .string k, y]) w' ∧ w.grownBy w' (some b) ∧ w'.heap.size = w.heap.size ∧ ItRep S w' m (left.filter fun x => decide (x ≠ k)) (some k) v := by
  obtain ⟨b, r, es, clock, since, seen, c0, rfl, hnd, h2, h3, h4, h5, h6, h7, h7', h8, _⟩ := h
  rcases run_next_at (P := P) w ty b r since c0 seen es clock h4 h3 h6 h7 with ⟨h0, hrun⟩ | ⟨e, he, w1, hw1, hrun⟩
  · refine .inl ⟨?_, hrun⟩
    have : (leftOf es seen).toList = [] := by
      have : (leftOf es seen).toList.length = 0 := by simpa using h0
      exact List.eq_nil_of_length_eq_zero this
    rw [this] at h8
    simpa using h8.symm
  · refine .inr ?_
    have hes : e ∈ es.toList := by simp [leftOf] at he ⊢; exact he.1
    obtain ⟨k, hk, hks, hval⟩ := entry_get h2 h3 hnd hes
    have hkl : k ∈ left := by
      have : Value.string k ∈ left.map Value.string := by rw [← h8, ← hk]; exact List.mem_map_of_mem he
      obtain ⟨k', hk', e'⟩ := List.mem_map.1 this
      cases e'; exact hk'
    have hr0 : S r := by cases h2 with | map hS => exact hS
    have hrb : r ≠ b := fun e => hS r hr0 (by rw [e])
    have hblt : b < w.heap.size := (Array.getElem?_eq_some_iff.1 h4).1
    have hw1h : w1.heap = w.heap := by rcases hw1 with rfl | rfl <;> rfl
    have hset : ∀ i, (ChangeMaps.setBlock w1 b (.mapIter (some r) since (seen.push e.born) clock)).heap[i]? = if i = b then some (.mapIter (some r) since (seen.push e.born) clock) else w.heap[i]? := fun i => by
      simp only [ChangeMaps.setBlock, hw1h]
      by_cases e : i = b
      · subst e; simp [hblt]
      · simp [e, Ne.symm e, Array.getElem?_setIfInBounds]
    have hsz : (ChangeMaps.setBlock w1 b (.mapIter (some r) since (seen.push e.born) clock)).heap.size = w.heap.size := by simp [ChangeMaps.setBlock, hw1h]
    have hgr : w.grownBy (ChangeMaps.setBlock w1 b (.mapIter (some r) since (seen.push e.born) clock)) (some b) :=
      ⟨by rcases hw1 with rfl | rfl <;> rfl, by rcases hw1 with rfl | rfl <;> rfl, by rcases hw1 with rfl | rfl <;> rfl, by rw [hsz]; exact Nat.le_refl _, fun i _ hi => by rw [hset]; rw [if_neg (fun e => hi (by rw [e]))]⟩
    have hSame : Same S w (ChangeMaps.setBlock w1 b (.mapIter (some r) since (seen.push e.born) clock)) := fun i hi => by
      rw [hset, if_neg]; rintro rfl; exact hS i hi rfl
    have hkeys := (map_facts h2)
    obtain ⟨r', es', clock', e1, e2, hk2, _, _⟩ := hkeys
    cases e1
    rw [h3] at e2; cases e2
    have hpw : (es.toList.map (·.key)).Nodup := by
      rw [hk2]
      exact List.pairwise_map.2 ((List.pairwise_map.1 hnd).imp fun h e => h (by injection e))
    have hinj : ∀ x ∈ es.toList, (x.born = e.born ↔ x.key = .string k) := fun x hx => by
      rw [← hk]
      constructor
      · intro h; exact congrArg MapEntry.key (inj_of_map h5 hx hes h)
      · intro h; exact congrArg MapEntry.born (inj_of_map hpw hx hes h)
    refine ⟨k, e.val, _, b, hkl, hks, rfl, hval, by rw [hrun, hk], hgr, hsz, b, r, es, clock, since, seen.push e.born, clock, rfl, hnd, h2.frame hSame (fun _ h => h), by rw [hset, if_neg hrb]; exact h3, by rw [hset, if_pos rfl], h5, h6, h7', h7', ?_, fun k' hk' => ⟨e, seen, rfl, rfl, hes, by cases hk'; exact hk⟩⟩
    have hL : (leftOf es (seen.push e.born)).toList = (leftOf es seen).toList.filter fun x => !decide (x.born = e.born) := by
      simp only [leftOf, Array.toList_filter, List.filter_filter]
      refine List.filter_congr fun x _ => ?_
      by_cases h1 : x.born = e.born <;> simp [h1]
    rw [hL]
    have hsub : ∀ x ∈ (leftOf es seen).toList, x ∈ es.toList := fun x hx => by simp [leftOf] at hx ⊢; exact hx.1
    clear hL hset hsz hgr hSame hrun he h4
    revert h8 hsub
    generalize (leftOf es seen).toList = L
    clear hkl
    induction L generalizing left with
    | nil => intro h8 _; have : left = [] := by simpa using h8.symm
             subst this; rfl
    | cons x L ih =>
      intro h8 hsub
      cases left with
      | nil => simp at h8
      | cons y left =>
        simp only [List.map_cons, List.cons.injEq] at h8
        have hi := ih (left := left) h8.2 fun z hz => hsub z (List.mem_cons_of_mem _ hz)
        have hx := hinj x (hsub x (List.mem_cons_self ..))
        rw [h8.1] at hx
        by_cases hxe : x.born = e.born
        · have : y = k := by have := hx.1 hxe; injection this
          simp [List.filter_cons, hxe, this, hi]
        · have : y ≠ k := fun h => hxe (hx.2 (by rw [h]))
          simp [List.filter_cons, hxe, this, hi, h8.1]
theorem ItRep.entry {S : Nat → Prop} {w : World} {m : List (ByteArray × Tree)} {left : List ByteArray} {k : ByteArray} {v : Value} (h : ItRep S w m left (some k) v) :
    ∃ y, RepT w S ((mget m k).getD .nil) y ∧ k.size ≤ 140737488351232 ∧ (Instr.entry v).run P w = .ok (.tuple #[.string k, y]) w := by
  obtain ⟨b, r, es, clock, since, seen, c0, rfl, hnd, h2, h3, h4, h5, h6, h7, h7', h8, h9⟩ := h
  obtain ⟨e, seen', rfl, rfl, he, hk⟩ := h9 k rfl
  obtain ⟨k', hk', hks, hval⟩ := entry_get h2 h3 hnd he
  rw [hk] at hk'; cases hk'
  exact ⟨e.val, hval, hks, by rw [run_entry_at w b r since seen' es c0 e h4 h3 he h5, hk]⟩
end
end Go.Smd
