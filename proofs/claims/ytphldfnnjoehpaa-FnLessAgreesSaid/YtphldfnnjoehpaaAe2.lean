/- append, make and slice literals, by value. Over any program. -/
import Derived.Test.YtphldfnnjoehpaaAe
set_option linter.unusedSimpArgs false
namespace Go.Smd
open Go.RowKit

section
variable {P : Program} {N : Nat} {w0 : World} {S0 : Env} {β : Nat → Value} {σ : St} {a : Act} {w : World}
theorem RepRow.cells {S : Nat → Prop} {xs : List D} {ad : Addr} (h : RepRow P w S xs ad) : ∃ us : List Value, us.length = xs.length ∧ All2 (RepD P w S) xs us ∧ CellsAt w ad us := by
  refine ⟨(List.range xs.length).map fun i => (w.cell? (ad.add i)).getD undef, by simp, All2.of (by simp) fun i d u hi hu => ?_, fun j u hu => ?_⟩
  · obtain ⟨u', _, hc, hr⟩ := h i d hi
    rw [List.getElem?_map] at hu
    obtain ⟨i', hi', rfl⟩ := Option.map_eq_some_iff.1 hu
    obtain ⟨hlt, rfl⟩ := List.getElem?_eq_some_iff.1 hi'
    simp only [List.getElem_range, hc, Option.getD_some]; exact hr
  · rw [List.getElem?_map] at hu
    obtain ⟨i', hi', rfl⟩ := Option.map_eq_some_iff.1 hu
    obtain ⟨hlt, rfl⟩ := List.getElem?_eq_some_iff.1 hi'
    simp only [List.length_range] at hlt
    obtain ⟨u', _, hc, hr⟩ := h j xs[j] (List.getElem?_eq_getElem hlt)
    simp only [List.getElem_range, hc, Option.getD_some]
theorem RowOf.any {S : Nat → Prop} {E : TypeId} {ys : List (List D)} {A : Option Addr} {T : Nat → Prop} (h : RowOf (RDs P w T) (P.cellsOf E) S w A ys) : RowOf (RDs P w T) (P.cellsOf E) (fun _ => True) w A ys := fun j x hj => by
  obtain ⟨ad, cs, h1, _, h3⟩ := h j x hj
  exact ⟨ad, cs, h1, trivial, h3⟩
theorem RepD.rowOf {S T : Nat → Prop} {E : TypeId} {ys : List (List D)} {u : Value} (h : RepD P w S (.sl E ys) u) (hp : 0 < P.cellsOf E) (hT : ∀ b, S b → T b) : ∃ A c, u = .slice A ys.length c ∧ RowOf (RDs P w T) (P.cellsOf E) S w A ys := by
  obtain ⟨A, c, rfl, _, _, hr⟩ := RepD.sl_iff.1 h
  refine ⟨A, c, rfl, fun j x hj => ?_⟩
  obtain ⟨hl, hq⟩ := hr j x hj
  obtain ⟨ad, ha, hrow⟩ := hq hp
  obtain ⟨us, h1, h2, h3⟩ := hrow.cells
  have hS : S ad.block := by
    obtain ⟨u, hs, _⟩ := hrow 0 x[0] (List.getElem?_eq_getElem (by omega))
    rwa [add_block] at hs
  exact ⟨ad, us, ha, hS, h2.imp fun _ _ _ r => r.mono hT, by omega, h3⟩
/-- What append needs of the elements' type. -/
def _root_.Go.Program.appOk (P : Program) (E : TypeId) : Bool := match P.info? E with
  | some i => (match i.zero with | some z => z.cells.size == i.size | none => false) && decide (0 < i.size) && decide (0 < i.bytes)
  | none => false
theorem appOk_spec {E : TypeId} (h : P.appOk E = true) : ∃ z, (P.info? E).map (fun i => (i.zero, i.size, i.bytes)) = some (some z, P.cellsOf E, P.bytesOf E) ∧ z.cells.size = P.cellsOf E ∧ 0 < P.cellsOf E ∧ 0 < P.bytesOf E := by
  unfold Go.Program.appOk at h
  split at h
  · next i hi =>
    simp only [Bool.and_eq_true, decide_eq_true_eq] at h
    obtain ⟨⟨h1, h2⟩, h3⟩ := h
    split at h1
    · next z hz =>
      refine ⟨z, ?_, ?_, ?_, ?_⟩ <;> simp [hi, hz, Go.Program.cellsOf, Go.Program.bytesOf]
      · simpa using h1
      · exact h2
      · exact h3
    · cases h1
  · cases h
/-- A nil slice may be told as a row that is being built. -/
theorem Sim.nilArr (s : Sim P N w0 S0 β σ a w) {id : Nat} (E : TypeId) (hz : id < zed) (hid : σ.h id = none) : ∃ β', Sim P N w0 S0 β' (σ.new id (.arr 0 E [])) a w ∧ (∀ v, RepD P w (fun _ => True) (.v (.slice none 0 0)) v → RepC P (Sd w0 S0 β' (σ.new id (.arr 0 E [])).h w) β' (σ.new id (.arr 0 E [])).h w (.gs id 0) v) ∧ Steps' P (Sd w0 S0 β σ.h w) (Sd w0 S0 β' (σ.new id (.arr 0 E [])).h w) β β' σ.h (σ.new id (.arr 0 E [])).h w w := by
  obtain ⟨s1, k⟩ := s.write (id := id) (o' := .arr 0 E []) (v' := .slice none 0 0) (w' := w) (row := none) (fun _ => hz) (fun f xs h => by rw [hid] at h; cases h) (World.grownBy.refl w none) (fun b h => by cases h) (fun b h => by simp [bk, Value.ownBlock] at h) (fun xs T h => by rw [hid] at h; cases h) (fun ver E xs h => by rw [hid] at h; cases h)
    fun hS k => ⟨Build.nil, by simp, by simp⟩
  refine ⟨_, s1, fun v hv => ?_, k⟩
  cases hv
  exact ⟨0, E, [], by rw [new_h]; simp, Nat.le_refl _, fun _ => by simp, rfl⟩
/-- Rows are appended to a row that is being built. -/
theorem Sim.append (s : Sim P N w0 S0 β σ a w) {id ver E : Nat} {xs ys : List (List D)} {T ty : TypeId} {v u : Value} (hT : P.elemT T = some E) (hE : P.appOk E = true) (hid : σ.h id = some (.arr ver E xs)) (hb : (xs.length + ys.length) * P.bytesOf E ≤ 140737488351232)
    (hv : RepC P (Sd w0 S0 β σ.h w) β σ.h w (.gs id ver) v) (hu : ∃ A c, u = .slice A ys.length c ∧ RowOf (RDs P w (Sd w0 S0 β σ.h w)) (P.cellsOf E) (fun _ => True) w A ys) :
    ∃ v' w' β', (Builtin.append_ #[T, T] ty #[v, u]).run P w = .ok v' w' ∧ Sim P N w0 S0 β' (σ.new id (.arr (ver + 1) E (xs ++ ys))) a w' ∧ RepC P (Sd w0 S0 β' (σ.new id (.arr (ver + 1) E (xs ++ ys))).h w') β' (σ.new id (.arr (ver + 1) E (xs ++ ys))).h w' (.gs id (ver + 1)) v' := by
  obtain ⟨z, hi, hz, hp, hbp⟩ := appOk_spec hE
  obtain ⟨ver', E', xs', h1, _, h3, _⟩ := hv
  rw [hid] at h1; cases h1
  have hv := h3 rfl
  obtain ⟨hB, _, hlen⟩ := s.own id _ hid
  obtain ⟨A, c, rfl, hrow0⟩ := hu
  have hrow : RowOf (RDs P w fun b => Sd w0 S0 β σ.h w b ∧ (β id).ownBlock ≠ some b) (P.cellsOf E) (fun _ => True) w A ys := fun j x hj => by
    obtain ⟨ad, cs, h1, h2, h3, h4⟩ := hrow0 j x hj
    exact ⟨ad, cs, h1, h2, All2.imp h3 fun d u _ k => k.mono fun b hb => ⟨hb, fun hc => hb.2.2 id _ hid (by
      obtain ⟨A, c, hs⟩ := hB.slice
      rw [hs] at hc ⊢; exact hc)⟩, h4⟩
  have hylen : ∀ y ∈ ys, y.length = P.cellsOf E := fun y hy => by
    obtain ⟨j, hj⟩ := List.getElem?_of_mem hy
    obtain ⟨ad, cs, _, _, hr, hl, _⟩ := hrow j y hj
    rw [← hl]; exact All2.length hr
  obtain ⟨v', w', hrun, hB', hg, hat, A', c', hv'⟩ := Build.appRow (P := P) (ty := ty) (framedRDs P) (elemT_spec hT) hi hz hp hbp hB rfl hrow (c := c) (fun y cs hy u hu => by
    obtain ⟨i, hi⟩ := List.getElem?_of_mem hu
    obtain ⟨d, _, hd⟩ := All2.at' hy hi
    exact hd.one) trivial (by omega)
  have hbk : ∀ {x : Value} {b : Nat}, (∃ A n c, x = .slice A n c) → (bk x = some b ↔ x.ownBlock = some b) := by
    rintro x b ⟨A, n, c, rfl⟩; rfl
  have hsl : ∃ A n c, β id = .slice A n c := by obtain ⟨A, c, hs⟩ := hB.slice; exact ⟨A, _, c, hs⟩
  have hsl' : ∃ A n c, v' = .slice A n c := ⟨_, _, _, hv'⟩
  obtain ⟨s1, k⟩ := s.write (id := id) (o' := .arr (ver + 1) E (xs ++ ys)) (v' := v') (fun h => by rw [hid] at h; cases h) (fun f xs h => by rw [hid] at h; cases h) hg (fun b hb => ⟨_, hid, (hbk hsl).2 hb⟩) (fun b hb => by
      have hb' := (hbk hsl').1 hb
      rcases hat with h | h
      · exact .inl (by rw [← h]; exact hb')
      · rw [h] at hb'; cases hb'; exact .inr ⟨Nat.le_refl _, hB'.row_lt h⟩) (fun xs T h => by rw [hid] at h; cases h) (fun ver2 E2 xs2 h => by rw [hid] at h; cases h; exact ⟨_, _, _, rfl, by omega, fun h => by omega⟩)
    fun hS k => ⟨hB'.frame (framedRDs P) (fun _ _ => rfl) (fun _ _ => rfl) (fun _ h => h) hS, by rw [List.length_append]; exact hb, fun x hx => by
      rcases List.mem_append.1 hx with h | h
      · exact hlen x h
      · exact hylen x h⟩
  refine ⟨v', w', _, by rw [hv]; exact hrun, s1, ver + 1, E, xs ++ ys, by rw [new_h]; simp, Nat.le_refl _, fun _ => by simp, by rw [hv']; rfl⟩
/-- make([]T, 0, n). -/
theorem Sim.make (s : Sim P N w0 S0 β σ a w) {id E : Nat} {T : TypeId} {n : Nat} (hz0 : id < zed) (hT : P.elemT T = some E) (hE : P.appOk E = true) (hid : σ.h id = none) (hb : P.bytesOf E * n ≤ 281474976710656) :
    ∃ v' w' β', (Instr.makeSlice T (.int .i64 0) (.int .i64 (n : Int))).run P w = .ok v' w' ∧ Sim P N w0 S0 β' (σ.new id (.arr 0 E [])) a w' ∧ RepC P (Sd w0 S0 β' (σ.new id (.arr 0 E [])).h w') β' (σ.new id (.arr 0 E [])).h w' (.gs id 0) v' := by
  obtain ⟨z, hi, hz, hp, hbp⟩ := appOk_spec hE
  obtain ⟨cur, hrun, hB⟩ := Build.make (P := P) (R := RDs P) (S := fun _ => True) (T := Sd w0 S0 β σ.h w) (elemT_spec hT) hi hbp w n hb trivial
  obtain ⟨s1, k⟩ := s.write (id := id) (o' := .arr 0 E []) (v' := .slice (some ⟨w.heap.size, 0, none⟩) 0 n) (row := none) (fun _ => hz0) (fun f xs h => by rw [hid] at h; cases h) (World.grownBy_alloc w (.cells cur E) none) (fun b h => by cases h) (fun b h => by
      simp [bk, Value.ownBlock] at h; subst h; exact .inr ⟨Nat.le_refl _, by rw [size_alloc]; omega⟩) (fun xs T h => by rw [hid] at h; cases h) (fun ver E xs h => by rw [hid] at h; cases h)
    fun hS k => ⟨hB.frame (framedRDs P) (fun _ _ => rfl) (fun _ _ => rfl) (fun _ h => h) hS, by simp, by simp⟩
  exact ⟨_, _, _, hrun, s1, 0, E, [], by rw [new_h]; simp, Nat.le_refl _, fun _ => by simp, rfl⟩
def reps {α : Type} (n : Nat) (z : List α) : List α := (List.replicate n z).flatten
def chunk {α : Type} (n k : Nat) (xs : List α) : List (List α) := (List.range n).map fun j => (xs.drop (j * k)).take k
theorem chunk_elems {R : List D → List Value → Prop} {n k : Nat} {ds : List D} {us : List Value} (hl : us.length = n * k) (h : ∀ j, j < n → R ((ds.drop (j * k)).take k) ((us.drop (j * k)).take k)) : Elems R k (chunk n k ds) us := by
  refine ⟨by simp [chunk, hl], fun j x hj => ?_⟩
  unfold chunk at hj
  rw [List.getElem?_map] at hj
  obtain ⟨i, hi, rfl⟩ := Option.map_eq_some_iff.1 hj
  obtain ⟨hlt, rfl⟩ := List.getElem?_eq_some_iff.1 hi
  simp only [List.length_range] at hlt
  simp only [List.getElem_range]
  exact h j hlt
theorem reps_at {α : Type} {z : List α} {k : Nat} (hz : z.length = k) (hk : 0 < k) : ∀ (n i : Nat), i < n * k → (reps n z)[i]? = z[i % k]?
  | 0, i, h => by simp at h
  | n + 1, i, h => by
    unfold reps
    rw [List.replicate_succ, List.flatten_cons]
    rcases Nat.lt_or_ge i k with h1 | h1
    · rw [List.getElem?_append_left (by omega), Nat.mod_eq_of_lt h1]
    · rw [List.getElem?_append_right (by omega)]
      have := reps_at hz hk n (i - z.length) (by rw [hz]; rw [Nat.add_mul] at h; omega)
      unfold reps at this
      rw [this, hz]
      congr 1
      exact (Nat.mod_eq_sub_mod h1).symm
theorem reps_length {α : Type} (n : Nat) (z : List α) : (reps n z).length = n * z.length := by simp [reps]
/-- A slice literal. -/
theorem Sim.literal (s : Sim P N w0 S0 β σ a w) {id E n : Nat} {T : TypeId} {z r : List Cl} {ds : List D} {parts : List (Nat × Operand)} (hz0' : id < zed) (hT : P.elemT T = some E) (hE : P.appOk E = true) (hz : zeroCs P E = some z) (hid : σ.h id = none) (hn : n * P.cellsOf E ≤ 16777216) (hb : n * P.bytesOf E ≤ 140737488351232)
    (hf : fillA (fun i => some (i * P.cellsOf E, P.cellsOf E)) (reps n z) (parts.map fun p => (p.1, σ.ev p.2)) = some r) (hds : toDs r = some ds) :
    ∃ v' w' β', (Instr.buildSlice T n (parts.toArray.map fun (i, x) => (i, a.eval x))).run P w = .ok v' w' ∧ Sim P N w0 S0 β' (σ.new id (.arr 0 E (chunk n (P.cellsOf E) ds))) a w' ∧ RepC P (Sd w0 S0 β' (σ.new id (.arr 0 E (chunk n (P.cellsOf E) ds))).h w') β' (σ.new id (.arr 0 E (chunk n (P.cellsOf E) ds))).h w' (.gs id 0) v' := by
  obtain ⟨zv, hi, hzs, hp, hbp⟩ := appOk_spec hE
  obtain ⟨i0, hi0, hzz⟩ := Option.map_eq_some_iff.1 hi
  simp only [Prod.mk.injEq] at hzz
  obtain ⟨hz0, hz1, hz2⟩ := hzz
  obtain ⟨i, z', hi', hzv', hr⟩ := zeroCs_rep (S := Sd w0 S0 β σ.h w) (β := β) (hh := σ.h) (w := w) hz
  rw [hi0] at hi'; cases hi'
  rw [hz0] at hzv'; cases hzv'
  have hzl : z.length = P.cellsOf E := by rw [hr.length, Array.length_toList, hzs]
  have hinit : All2 (RepC P (Sd w0 S0 β σ.h w) β σ.h w) (reps n z) ((Array.range (n * P.cellsOf E)).map (zv.cells[· % zv.cells.size]!)).toList := by
    refine All2.of (by rw [reps_length, hzl]; simp) fun j x u hj hu => ?_
    have hjl := (List.getElem?_eq_some_iff.1 hj).1
    rw [reps_length, hzl] at hjl
    rw [reps_at hzl hp n j hjl] at hj
    have hm : j % P.cellsOf E < zv.cells.size := by rw [hzs]; exact Nat.mod_lt _ hp
    have hu' : u = zv.cells[j % P.cellsOf E] := by
      simp [hjl, hzs] at hu
      rw [← hu, getElem!_pos zv.cells (j % P.cellsOf E) hm]
    obtain ⟨u2, hu2, hr2⟩ := hr.at hj
    rw [Array.getElem?_toList, Array.getElem?_eq_getElem hm] at hu2
    cases hu2
    rw [hu']; exact hr2
  have hparts : All2 (fun (p : Nat × Av) (q : Nat × Value) => p.1 = q.1 ∧ RepA P (Sd w0 S0 β σ.h w) β σ.h w p.2 q.2) (parts.map fun p => (p.1, σ.ev p.2)) (parts.map fun p => (p.1, a.eval p.2)) := by
    refine All2.of (by simp) fun j p q hp hq => ?_
    rw [List.getElem?_map] at hp hq
    obtain ⟨x, hx, rfl⟩ := Option.map_eq_some_iff.1 hp
    rw [hx] at hq; cases hq
    exact ⟨rfl, s.ev x.2⟩
  obtain ⟨us, hfill, hus⟩ := fillA_rep (place' := fun i => some (i * P.cellsOf E, P.cellsOf E)) (fun i q h => h) _ _ _ _ _ hparts hinit hf
  have hus2 := toDs_rep hds hus
  have husz : us.size = n * P.cellsOf E := by
    have : ∀ (vs : List (Nat × Value)) (cs cs' : Array Value), Instr.fill (fun i => some (i * P.cellsOf E, P.cellsOf E)) cs vs = some cs' → cs'.size = cs.size := by
      intro vs
      induction vs with
      | nil => intro cs cs' h; simp [Instr.fill] at h; rw [h]
      | cons q vs ih =>
        intro cs cs' h
        obtain ⟨i, v⟩ := q
        simp only [Instr.fill] at h
        split at h
        · cases h
        · rw [ih _ _ h]
          have : ∀ (l : List (Value × Nat)) (cs : Array Value), (l.foldl (fun cs (p : Value × Nat) => cs.setIfInBounds (i * P.cellsOf E + p.2) p.1) cs).size = cs.size := by
            intro l
            induction l with
            | nil => intro cs; rfl
            | cons p l ih => intro cs; rw [List.foldl_cons, ih]; simp
          rw [← Array.foldl_toList]
          exact this _ _
    rw [this _ _ _ hfill]; simp
  have hE2 := Ext.alloc (Ext.refl w) (.cells us E)
  have hrun : (Instr.buildSlice T n (parts.toArray.map fun (i, x) => (i, a.eval x))).run P w = .ok (.slice (some ⟨w.heap.size, 0, none⟩) n n) (w.alloc (.cells us E)) := by
    have hzr : (zeroValue E).run P w = .ok zv w := by simp [zeroValue, typeInfo, hi0, hz0]
    have hsz : (sizeOf E).run P w = .ok (P.cellsOf E) w := run_sizeOf_pos hp w
    unfold Instr.buildSlice
    simp only [Sem.run_bind, run_underlying (elemT_spec hT), Result.andThen_ok, hsz]
    rw [if_neg (by omega)]
    have hpar : (parts.toArray.map fun (x : Nat × Operand) => (x.1, a.eval x.2)).toList = parts.map fun p => (p.1, a.eval p.2) := by simp
    by_cases h0 : n * P.cellsOf E = 0
    · have e0 : (Array.range 0).map (zv.cells[· % zv.cells.size]!) = #[] := by simp
      rw [h0, e0] at hfill
      simp only [h0, if_true, Sem.run_bind, Sem.run_pure, Result.andThen_ok, hpar]
      rw [show ((Array.range 0).map fun x => (#[] : Array Value)[x % (#[] : Array Value).size]!) = #[] from by simp, hfill]
      rfl
    · simp only [if_neg h0, Sem.run_bind, Sem.run_pure, Result.andThen_ok, hzr, hpar, hfill]
      rfl
  have hB : Build (RDs P) E (P.cellsOf E) (fun _ => True) (Sd w0 S0 β σ.h w) (w.alloc (.cells us E)) (.slice (some ⟨w.heap.size, 0, none⟩) n n) (chunk n (P.cellsOf E) ds) := by
    refine ⟨us.toList, ⟨by rw [Array.length_toList, husz]; simp [chunk], .inr ⟨w.heap.size, n, us, by simp [chunk], Nat.zero_le _, heap_alloc_new w _, by simp [chunk], by have := Nat.le_mul_of_pos_right n hp; simp only [maxLen]; omega, husz, ?_⟩⟩, fun _ _ => trivial, ?_⟩
    · rw [List.take_of_length_le]; rw [Array.length_toList, husz]; simp [chunk]
    · refine chunk_elems (by rw [Array.length_toList, husz]) fun j hj => ?_
      refine ((hus2.drop _).take _).imp fun x u _ k => (k.lt.ext hE2).mono fun b hb => ⟨hb.1, fun hc => ?_⟩
      simp [Value.ownBlock] at hc
      omega
  have hdl : ds.length = n * P.cellsOf E := by rw [hus2.length, Array.length_toList, husz]
  obtain ⟨s1, k⟩ := s.write (id := id) (o' := .arr 0 E (chunk n (P.cellsOf E) ds)) (v' := .slice (some ⟨w.heap.size, 0, none⟩) n n) (row := none) (fun _ => hz0') (fun f xs h => by rw [hid] at h; cases h) (World.grownBy_alloc w (.cells us E) none) (fun b h => by cases h) (fun b h => by
      simp [bk, Value.ownBlock] at h; subst h; exact .inr ⟨Nat.le_refl _, by rw [size_alloc]; omega⟩) (fun xs T h => by rw [hid] at h; cases h) (fun ver E xs h => by rw [hid] at h; cases h)
    fun hS k => ⟨hB.frame (framedRDs P) (fun _ _ => rfl) (fun _ _ => rfl) (fun _ h => h) hS, by simpa [chunk] using hb, fun x hx => by
      obtain ⟨j, hj, rfl⟩ := List.mem_map.1 hx
      have hj' := List.mem_range.1 hj
      have : j * P.cellsOf E + P.cellsOf E ≤ n * P.cellsOf E := by rw [← Nat.succ_mul]; exact Nat.mul_le_mul_right _ hj'
      rw [List.length_take, List.length_drop, hdl]; omega⟩
  exact ⟨_, _, _, hrun, s1, 0, E, chunk n (P.cellsOf E) ds, by rw [new_h]; simp, Nat.le_refl _, fun _ => by simp, rfl⟩
end
end Go.Smd
