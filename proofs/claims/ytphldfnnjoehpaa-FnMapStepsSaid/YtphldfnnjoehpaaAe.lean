/- Operations that write into blocks of the call's own, by value. Over any program. -/
import Derived.Test.YtphldfnnjoehpaaAd
set_option linter.unusedSimpArgs false
namespace Go.Smd
open Go.RowKit

section
variable {P : Program} {N : Nat} {w0 : World} {S0 : Nat → Prop} {β : Nat → Value} {σ : St} {a : Act} {w : World}

theorem Ext.grown {a w w' : World} {row : Option Nat} (h : Ext a w) (hg : w.grownBy w' row) (hr : ∀ k, row = some k → a.heap.size ≤ k) : Ext a w' := Below.grown h hg h.size hr

/-- One own block (or none yet) is written; β and h change at its name alone. -/
theorem Sim.write (s : Sim P N w0 S0 β σ a w) {id : Nat} {o' : Ow} {v' : Value} {w' : World} {row : Option Nat} (hg : w.grownBy w' row)
    (hrow : ∀ b, row = some b → ∃ o, σ.h id = some o ∧ bk (β id) = some b)
    (hv' : ∀ b, bk v' = some b → row = some b ∨ (w.heap.size ≤ b ∧ b < w'.heap.size))
    (hown : ∀ xs T, σ.h id = some (.cells xs T) → (∃ xs' T', o' = .cells xs' T') ∧ v' = β id)
    (harr : ∀ ver E xs, σ.h id = some (.arr ver E xs) → ∃ ver' E' xs', o' = .arr ver' E' xs' ∧ ver ≤ ver' ∧ (ver = ver' → v' = β id))
    (hrep : (∀ b, Sd w0 S0 β σ.h w b → Sd w0 S0 (fun i => if i = id then v' else β i) (σ.new id o').h w' b) → Steps' P (Sd w0 S0 β σ.h w) (Sd w0 S0 (fun i => if i = id then v' else β i) (σ.new id o').h w') β (fun i => if i = id then v' else β i) σ.h (σ.new id o').h w w' →
      RepO P (Sd w0 S0 (fun i => if i = id then v' else β i) (σ.new id o').h w') (fun i => if i = id then v' else β i) (σ.new id o').h w' v' o') :
    Sim P N w0 S0 (fun i => if i = id then v' else β i) (σ.new id o') a w' ∧ Steps' P (Sd w0 S0 β σ.h w) (Sd w0 S0 (fun i => if i = id then v' else β i) (σ.new id o').h w') β (fun i => if i = id then v' else β i) σ.h (σ.new id o').h w w' := by
  have hnb : ∀ b, Sd w0 S0 β σ.h w b → row ≠ some b := fun b hb hr => by
    obtain ⟨o, h1, h2⟩ := hrow b hr
    exact hb.2.2 id o h1 h2
  have hSame : Same (Sd w0 S0 β σ.h w) w w' := fun b hb => hg.block b hb.2.1 fun h => hnb b hb h.symm
  have hS : ∀ b, Sd w0 S0 β σ.h w b → Sd w0 S0 (fun i => if i = id then v' else β i) (σ.new id o').h w' b := fun b hb => ⟨hb.1, Nat.lt_of_lt_of_le hb.2.1 hg.size, fun i o ho => by
    rw [new_h] at ho
    by_cases e : i = id
    · simp only [e, if_true]
      intro hc
      rcases hv' b hc with h | h
      · exact hnb b hb h
      · have := hb.2.1; omega
    · simp only [e, if_false] at ho ⊢; exact hb.2.2 i o ho⟩
  have k : Steps' P (Sd w0 S0 β σ.h w) (Sd w0 S0 (fun i => if i = id then v' else β i) (σ.new id o').h w') β (fun i => if i = id then v' else β i) σ.h (σ.new id o').h w w' := by
    refine ⟨fun x v r => r.frame hSame hS, fun i xs T hh => ?_, fun i ver E xs hh => ?_⟩
    · by_cases e : i = id
      · subst e
        obtain ⟨⟨xs', T', h1⟩, h2⟩ := hown xs T hh
        exact ⟨⟨xs', T', by rw [new_h]; simp [h1]⟩, by simp [h2]⟩
      · exact ⟨⟨xs, T, by rw [new_h]; simp [e, hh]⟩, by simp [e]⟩
    · by_cases e : i = id
      · subst e
        obtain ⟨ver', E', xs', h1, h2, h3⟩ := harr ver E xs hh
        exact ⟨ver', E', xs', by rw [new_h]; simp [h1], h2, fun h => by simp [h3 h]⟩
      · exact ⟨ver, E, xs, by rw [new_h]; simp [e, hh], Nat.le_refl _, fun _ => by simp [e]⟩
  have hold : ∀ i o b, i ≠ id → σ.h i = some o → bk (β i) = some b → row ≠ some b := fun i o b hi ho hb hr => by
    obtain ⟨o2, h1, h2⟩ := hrow b hr
    exact hi (s.inj i id o o2 b ho h1 hb h2)
  refine ⟨⟨Ext.grown s.ext hg fun b hr => ?_, fun i j oi oj b hi hj hbi hbj => ?_, fun i o b hi hb => ?_, fun i o hi => ?_, fun t => (s.tmp t).step k, s.sz, s.dfr⟩, k⟩
  · obtain ⟨o, h1, h2⟩ := hrow b hr
    exact (s.new id o b h1 h2).1
  · rw [new_h] at hi hj
    by_cases ei : i = id <;> by_cases ej : j = id
    · rw [ei, ej]
    · simp only [ei, if_true, ej, if_false] at hbi hbj hj
      have h1 := hold j oj b ej hj hbj
      rcases hv' b hbi with h | h
      · exact absurd h h1
      · have := (s.new j oj b hj hbj).2; omega
    · simp only [ei, if_false, ej, if_true] at hbi hbj hi
      have h1 := hold i oi b ei hi hbi
      rcases hv' b hbj with h | h
      · exact absurd h h1
      · have := (s.new i oi b hi hbi).2; omega
    · simp only [ei, ej, if_false] at hi hj hbi hbj
      exact s.inj i j oi oj b hi hj hbi hbj
  · rw [new_h] at hi
    by_cases ei : i = id
    · simp only [ei, if_true] at hb
      rcases hv' b hb with h | h
      · obtain ⟨o2, h1, h2⟩ := hrow b h
        exact ⟨(s.new id o2 b h1 h2).1, Nat.lt_of_lt_of_le (s.new id o2 b h1 h2).2 hg.size⟩
      · exact ⟨Nat.le_trans s.ext.size h.1, h.2⟩
    · simp only [ei, if_false] at hi hb
      exact ⟨(s.new i o b hi hb).1, Nat.lt_of_lt_of_le (s.new i o b hi hb).2 hg.size⟩
  · by_cases ei : i = id
    · rw [new_h] at hi; simp only [ei, if_true] at hi; cases hi
      rw [ei]; simp only [if_true]
      exact hrep hS k
    · rw [new_h] at hi; simp only [ei, if_false] at hi
      have := s.own i o hi
      simp only [ei, if_false]
      cases o with
      | cells ys T' =>
        obtain ⟨b, vs, h1, h2, h3⟩ := this
        have hb : bk (β i) = some b := by rw [h1]; rfl
        refine ⟨b, vs, h1, (hg.block b (s.new i _ b hi hb).2 fun h => hold i _ b ei hi hb h.symm).trans h2, h3.imp fun _ _ _ r => r.step k⟩
      | arr ver E ys =>
        obtain ⟨h1, h2, h3⟩ := this
        refine ⟨(h1.other (framedRDs P) hg ?_ fun b hr hT => hnb b hT hr).frame (framedRDs P) (fun _ _ => rfl) (fun _ _ => rfl) (fun _ h => h) hS, h2, h3⟩
        obtain ⟨A, c, hs⟩ := h1.slice
        cases hob : (β i).ownBlock with
        | none => exact .inl rfl
        | some b =>
          have hb : bk (β i) = some b := by rw [hs] at hob ⊢; exact hob
          exact .inr fun h => hold i _ b ei hi hb h.symm

theorem grownBy_setRow (w : World) (g : Nat) (c : Array Value) : w.grownBy (w.setRow g c) (some g) := ⟨rfl, rfl, rfl, by simp [World.setRow], fun k _ hk => by
  have : g ≠ k := fun h => hk (by rw [h])
  simp [World.setRow, Array.getElem?_modify, this]⟩
/-- A store into a variable of the call's own. -/
theorem Sim.store (s : Sim P N w0 S0 β σ a w) {T T' n : Nat} {g : Bool} {id off : Nat} {xs ys : List Cl} {x : Av} {v p : Value} (hlay : P.lay T = some (n, g)) (hid : σ.h id = some (.cells xs T')) (hys : cellsA x = some ys) (hn : ys.length = n) (hle : off + n ≤ xs.length)
    (hx : RepA P (Sd w0 S0 β σ.h w) β σ.h w x v) (hp : RepC P (Sd w0 S0 β σ.h w) β σ.h w (.own id off) p) :
    ∃ w', (Instr.storeAt T p v).run P w = .ok () w' ∧ ∃ β', Sim P N w0 S0 β' (σ.new id (.cells (splice xs off ys) T')) a w' := by
  obtain ⟨xs2, T2, b, h1, h2, rfl⟩ := hp
  rw [hid] at h1; cases h1
  obtain ⟨b', us, h3, h4, h5⟩ := s.own id _ hid
  rw [h2] at h3; cases h3
  have hc := cellsA_rep hys hx
  have hl1 := hc.length
  have hl5 := h5.length
  simp only [Array.length_toList] at hl1
  obtain ⟨hr1, hr2⟩ := run_isAgg' hlay w
  have hst := run_storeCells_at (P := P) b off T' v.cells.toList 0 us.toArray w h4 (by simp; omega) (fun u hu => by obtain ⟨c, _, hcu⟩ := hc.mem u hu; exact hcu.one)
  simp only [Nat.add_zero] at hst
  refine ⟨w.setRow b (us.take off ++ v.cells.toList ++ us.drop (off + v.cells.toList.length)).toArray, ?_, _, (s.write (id := id) (o' := .cells (splice xs off ys) T') (v' := β id) (grownBy_setRow w b _) (fun b' hb' => by cases hb'; exact ⟨_, hid, by rw [h2]; rfl⟩) (fun b' hb' => by rw [h2] at hb'; exact .inl hb') (fun xs2 T2 hh => ?_) (fun ver E xs2 hh => by rw [hid] at hh; cases hh) fun _ k => ?_).1⟩
  · unfold Instr.storeAt
    simp only [Instr.sureAddr, Sem.run_bind, Sem.run_pure, Result.andThen_ok, storeVar, hr2]
    have : v.cells.size = n := by omega
    simp only [this, ne_eq, not_true_eq_false, if_false]
    exact hst
  · rw [hid] at hh; cases hh; exact ⟨⟨_, _, rfl⟩, rfl⟩
  · refine ⟨b, splice us off v.cells.toList, h2, ?_, ?_⟩
    · have := setRow_heap w b us.toArray ((us.take off ++ v.cells.toList ++ us.drop (off + v.cells.toList.length)).toArray) T' (0, 0) h4
      simpa [splice] using this
    · exact ((h5.splice hc).imp fun _ _ _ r => r.step k)

/-! ### What is given away: own blocks become data -/
/-- The cell's slice's element type, cell by cell. -/
def ctysN (P : Program) : Nat → TypeId → List (Option TypeId)
  | 0, _ => []
  | n + 1, T => match P.underlying T with
    | some (.struct fs) => fs.toList.flatMap fun f => ctysN P n f.type
    | some (.slice e) => [some e]
    | _ => List.replicate (P.cellsOf T) none
def ctys (P : Program) (T : TypeId) : List (Option TypeId) := ctysN P 8 T
def coC : Option TypeId → Cl → Cl
  | some E, .d (.v (.slice none 0 0)) => .d (.sl E [])
  | _, x => x
def coL : List (Option TypeId) → List Cl → List Cl
  | t :: ts, x :: xs => coC t x :: coL ts xs
  | _, xs => xs
theorem coC_rep {S : Nat → Prop} {hh : Nat → Option Ow} {t : Option TypeId} {x : Cl} {v : Value} (h : RepC P S β hh w x v) : RepC P S β hh w (coC t x) v := by
  unfold coC
  split
  · obtain ⟨rfl, _⟩ := rep_v (show RepA P S β hh w (.c (.d (.v (.slice none 0 0)))) v from h)
    exact RepD.nil _
  · exact h
theorem coL_rep {S : Nat → Prop} {hh : Nat → Option Ow} : ∀ {ts : List (Option TypeId)} {xs : List Cl} {us : List Value}, All2 (RepC P S β hh w) xs us → All2 (RepC P S β hh w) (coL ts xs) us
  | [], [], us, h => h
  | [], _ :: _, us, h => h
  | t :: ts, _, _, .nil => .nil
  | t :: ts, _, _, .cons h k => .cons (coC_rep h) (coL_rep k)
def frzG (F : List Nat) (h : Nat → Option Ow) : Cl → Cl
  | .gs id k => if F.contains id then (match h id with
    | some (.arr ver E xs) => if k = ver then .d (.sl E xs) else .un
    | _ => .un) else .gs id k
  | x => x
def frzC (P : Program) (F : List Nat) (h : Nat → Option Ow) : Cl → Cl
  | .own id off => if F.contains id then (match h id with
    | some (.cells xs T) => match toDs (coL (ctys P T) (xs.map (frzG F h))) with
      | some ds => .d (.pt (ds.drop off))
      | none => .un
    | _ => .un) else .own id off
  | x => frzG F h x
def frzA (P : Program) (F : List Nat) (h : Nat → Option Ow) : Av → Av
  | .c x => .c (frzC P F h x)
  | .agg xs => .agg (xs.map (frzC P F h))
  | .tup xs => .tup (xs.map fun p => (p.1, p.2.map (frzC P F h)))
  | .any => .any
def frzO (P : Program) (F : List Nat) (h : Nat → Option Ow) : Ow → Ow
  | .cells xs T => .cells (xs.map (frzC P F h)) T
  | o => o
def St.frz (P : Program) (F : List Nat) (σ : St) : St := ⟨σ.tmps.map fun p => (p.1, frzA P F σ.h p.2), (σ.own.filter fun p => !F.contains p.1).map fun p => (p.1, frzO P F σ.h p.2)⟩
theorem look_map {α α' : Type} (f : α → α') : ∀ (l : List (Nat × α)) (n : Nat), look (l.map fun p => (p.1, f p.2)) n = (look l n).map f
  | [], n => rfl
  | (k, x) :: l, n => by
    simp only [List.map_cons, look]
    by_cases e : k = n
    · rw [if_pos e, if_pos e]; rfl
    · rw [if_neg e, if_neg e, look_map f l n]
theorem look_filter {α : Type} (F : List Nat) : ∀ (l : List (Nat × α)) (n : Nat), look (l.filter fun p => !F.contains p.1) n = if F.contains n then none else look l n
  | [], n => by simp [look]
  | (k, x) :: l, n => by
    rw [List.filter_cons]
    by_cases hk : F.contains k
    · simp only [hk, Bool.not_true, Bool.false_eq_true, if_false, look_filter F l n, look]
      by_cases e : k = n
      · subst e; rw [if_pos hk, if_pos hk]
      · rw [if_neg e]
    · simp only [hk, Bool.not_false, if_true, look, look_filter F l n]
      by_cases e : k = n
      · subst e; rw [if_pos rfl, if_pos rfl, if_neg hk]
      · rw [if_neg e, if_neg e]
theorem frz_tmp (F : List Nat) (t : Nat) : (σ.frz P F).tmp t = frzA P F σ.h (σ.tmp t) := by
  unfold St.tmp St.frz
  simp only [look_map]
  cases look σ.tmps t <;> rfl
theorem frz_h (F : List Nat) (i : Nat) : (σ.frz P F).h i = if F.contains i then none else (σ.h i).map (frzO P F σ.h) := by
  unfold St.h St.frz
  simp only [look_map, look_filter]
  split <;> rfl
theorem map_all2 {α α' γ : Type} {R : α → γ → Prop} {R' : α' → γ → Prop} {f : α → α'} {xs : List α} {us : List γ} (h : All2 R xs us) (k : ∀ x u, x ∈ xs → R x u → R' (f x) u) : All2 R' (xs.map f) us := by
  induction h with
  | nil => exact .nil
  | cons h t ih => exact .cons (k _ _ (List.mem_cons_self ..) h) (ih fun x u hx => k x u (List.mem_cons_of_mem _ hx))
theorem Sim.frzAll (s : Sim P N w0 S0 β σ a w) (F : List Nat) : Sim P N w0 S0 β (σ.frz P F) a w ∧ ∀ x v, RepA P (Sd w0 S0 β σ.h w) β σ.h w x v → RepA P (Sd w0 S0 β (σ.frz P F).h w) β (σ.frz P F).h w (frzA P F σ.h x) v := by
  have hsub : ∀ i o, (σ.frz P F).h i = some o → F.contains i = false ∧ ∃ o', σ.h i = some o' ∧ o = frzO P F σ.h o' := fun i o h => by
    rw [frz_h] at h
    split at h
    · cases h
    · next hF => obtain ⟨o', h1, h2⟩ := Option.map_eq_some_iff.1 h; exact ⟨by simpa using hF, o', h1, h2.symm⟩
  have hS : ∀ b, Sd w0 S0 β σ.h w b → Sd w0 S0 β (σ.frz P F).h w b := fun b hb => ⟨hb.1, hb.2.1, fun i o h => by obtain ⟨_, o', h', _⟩ := hsub i o h; exact hb.2.2 i o' h'⟩
  have hblk : ∀ i o b, F.contains i = true → σ.h i = some o → bk (β i) = some b → Sd w0 S0 β (σ.frz P F).h w b := fun i o b hF ho hb => by
    obtain ⟨h1, h2⟩ := s.new i o b ho hb
    refine ⟨.inr h1, h2, fun j o2 hj hbj => ?_⟩
    obtain ⟨hj1, o3, hj2, _⟩ := hsub j o2 hj
    have := s.inj i j o o3 b ho hj2 hb hbj
    subst this
    rw [hF] at hj1; cases hj1
  have hin : ∀ i o, F.contains i = false → σ.h i = some o → (σ.frz P F).h i = some (frzO P F σ.h o) := fun i o hF ho => by rw [frz_h, hF, ho]; rfl
  have fixG : ∀ {x : Cl} {v : Value}, RepC P (Sd w0 S0 β σ.h w) β σ.h w x v → (∀ id off, x ≠ .own id off) → RepC P (Sd w0 S0 β (σ.frz P F).h w) β (σ.frz P F).h w (frzG F σ.h x) v := by
    intro x v r hno
    cases x with
    | d x => exact RepD.mono r hS
    | own id off => exact absurd rfl (hno id off)
    | gs id k =>
      by_cases hF : F.contains id = true
      · obtain ⟨ver, E, xs, h1, h2, h3, h4⟩ := r
        simp only [frzG, hF, if_true, h1]
        by_cases e : k = ver
        · simp only [e, if_true]
          have hv := h3 e
          obtain ⟨hB, hb, hl⟩ := s.own id _ h1
          by_cases h0 : 0 < P.cellsOf E
          · obtain ⟨A, c, hs, hc, hrow⟩ := hB.done (framedRDs P) h0
            rw [hv, hs]
            refine RepD.sl_iff.2 ⟨A, c, rfl, hc, hb, fun j row hj => ⟨hl row (List.mem_of_getElem? hj), fun _ => ?_⟩⟩
            obtain ⟨ad, cs, ha, _, hr, hcl, hcells⟩ := hrow j row hj
            refine ⟨ad, ha, fun i d hi => ?_⟩
            obtain ⟨u, hu, hd⟩ := All2.at hr hi
            refine ⟨u, ?_, hcells i u hu, RepD.mono hd hS⟩
            rw [add_block]
            refine hblk id _ ad.block hF h1 ?_
            rw [hs, ha]; rfl
          · obtain ⟨A, c, hs⟩ := hB.slice
            obtain ⟨cs, ho, _⟩ := hB
            have hc : xs.length ≤ c := by
              rcases ho.2 with ⟨h5, h6⟩ | ⟨g, cap, cur, h5, _, _, h6, _⟩
              · rw [hs] at h5; injection h5 with _ h7 h8; omega
              · rw [hs] at h5; injection h5 with _ _ h8; omega
            rw [hv, hs]
            exact RepD.sl_iff.2 ⟨A, c, rfl, hc, hb, fun j row hj => ⟨hl row (List.mem_of_getElem? hj), fun h => absurd h h0⟩⟩
        · simp only [e, if_false]; exact h4
      · obtain ⟨ver, E, xs, h1, h2, h3, h4⟩ := r
        simp only [frzG, hF, if_false]
        exact ⟨ver, E, xs, hin id _ (by simpa using hF) h1, h2, h3, h4⟩
    | un => exact r
  have fixC : ∀ {x : Cl} {v : Value}, RepC P (Sd w0 S0 β σ.h w) β σ.h w x v → RepC P (Sd w0 S0 β (σ.frz P F).h w) β (σ.frz P F).h w (frzC P F σ.h x) v := by
    intro x v r
    cases x with
    | own id off =>
      by_cases hF : F.contains id = true
      · have hone := RepC.one r
        obtain ⟨xs, T, b, h1, h2, h3⟩ := r
        simp only [frzC, hF, if_true, h1]
        cases hds : toDs (coL (ctys P T) (xs.map (frzG F σ.h))) with
        | some ds =>
          simp only
          obtain ⟨b', us, h4, h5, h6⟩ := s.own id _ h1
          rw [h2] at h4; cases h4
          have h7 : All2 (RepC P (Sd w0 S0 β (σ.frz P F).h w) β (σ.frz P F).h w) (coL (ctys P T) (xs.map (frzG F σ.h))) us := by
            refine coL_rep ?_
            have hno : ∀ x ∈ xs, ∀ id off, x ≠ .own id off := fun x hx id' off' e => by
              subst e
              have : ∀ {ts : List (Option TypeId)} {ys : List Cl} {ds : List D}, toDs (coL ts (ys.map (frzG F σ.h))) = some ds → Cl.own id' off' ∉ ys := by
                intro ts ys
                induction ys generalizing ts with
                | nil => intro ds _; simp
                | cons y ys ih =>
                  intro ds hd hm
                  cases ts with
                  | nil =>
                    simp only [List.map_cons, coL] at hd
                    rcases List.mem_cons.1 hm with rfl | hm
                    · simp [frzG, toDs] at hd
                    · cases hg : frzG F σ.h y with
                      | d z =>
                        rw [hg] at hd
                        simp only [toDs] at hd
                        obtain ⟨ds', hd', _⟩ := Option.map_eq_some_iff.1 hd
                        exact ih (ts := []) (by cases ys <;> simpa [coL] using hd') hm
                      | _ => rw [hg] at hd; simp [toDs] at hd
                  | cons t ts =>
                    simp only [List.map_cons, coL] at hd
                    rcases List.mem_cons.1 hm with rfl | hm
                    · simp [frzG, coC, toDs] at hd
                    · cases hg : coC t (frzG F σ.h y) with
                      | d z =>
                        rw [hg] at hd
                        simp only [toDs] at hd
                        obtain ⟨ds', hd', _⟩ := Option.map_eq_some_iff.1 hd
                        exact ih hd' hm
                      | _ => rw [hg] at hd; simp [toDs] at hd
              exact this hds hx
            exact map_all2 h6 fun x u hx r => fixG r (hno x hx)
          have h8 := toDs_rep hds h7
          rw [h3]
          refine RepD.pt_iff.2 ⟨_, rfl, fun i d hi => ?_⟩
          rw [List.getElem?_drop] at hi
          obtain ⟨u, hu, hd⟩ := h8.at hi
          refine ⟨u, hblk id _ b hF h1 (by rw [h2]; rfl), ?_, hd⟩
          rw [add_at]
          exact cell_of h5 (by simpa using hu)
        | none => exact hone
      · obtain ⟨xs, T, b, h1, h2, h3⟩ := r
        simp only [frzC, hF, if_false]
        exact ⟨_, T, b, hin id _ (by simpa using hF) h1, h2, h3⟩
    | d x => exact fixG r (fun _ _ h => by cases h)
    | gs id k => exact fixG r (fun _ _ h => by cases h)
    | un => exact r
  have fixA : ∀ x v, RepA P (Sd w0 S0 β σ.h w) β σ.h w x v → RepA P (Sd w0 S0 β (σ.frz P F).h w) β (σ.frz P F).h w (frzA P F σ.h x) v := by
    intro x v hr
    cases x with
    | c x => exact fixC hr
    | agg xs => obtain ⟨us, hu, ha⟩ := hr; exact ⟨us, hu, map_all2 ha fun x u _ r => fixC r⟩
    | tup xs =>
      obtain ⟨us, hu, ha⟩ := hr
      refine ⟨us, hu, map_all2 ha fun p u _ r => ?_⟩
      unfold RepP at *
      simp only
      split at r
      · next hb => rw [if_pos hb]; obtain ⟨us, hu, ha⟩ := r; exact ⟨us, hu, map_all2 ha fun x u _ r => fixC r⟩
      · next hb => rw [if_neg hb]; obtain ⟨y, hy, hr⟩ := r; exact ⟨_, by rw [hy]; rfl, fixC hr⟩
    | any => trivial
  refine ⟨⟨s.ext, fun i j oi oj b hi hj => ?_, fun i o b hi => ?_, fun i o hi => ?_, fun t => ?_, s.sz, s.dfr⟩, fixA⟩
  · obtain ⟨_, o1, h1, _⟩ := hsub i oi hi; obtain ⟨_, o2, h2, _⟩ := hsub j oj hj; exact s.inj i j o1 o2 b h1 h2
  · obtain ⟨_, o1, h1, _⟩ := hsub i o hi; exact s.new i o1 b h1
  · obtain ⟨_, o', h1, rfl⟩ := hsub i o hi
    have hr := s.own i o' h1
    cases o' with
    | cells xs T => obtain ⟨b, us, h3, h4, h5⟩ := hr; exact ⟨b, us, h3, h4, map_all2 h5 fun x u _ r => fixC r⟩
    | arr ver E xs => obtain ⟨h3, h4, h5⟩ := hr; exact ⟨h3.frame (framedRDs P) (fun _ _ => rfl) (fun _ _ => rfl) (fun _ h => h) hS, h4, h5⟩
  · rw [frz_tmp]; exact fixA _ _ (s.tmp t)
theorem Sim.frz (s : Sim P N w0 S0 β σ a w) (F : List Nat) : Sim P N w0 S0 β (σ.frz P F) a w := (s.frzAll F).1
theorem RepA.frz (s : Sim P N w0 S0 β σ a w) {x : Av} {v : Value} (r : RepA P (Sd w0 S0 β σ.h w) β σ.h w x v) (F : List Nat) : RepA P (Sd w0 S0 β (σ.frz P F).h w) β (σ.frz P F).h w (frzA P F σ.h x) v := (s.frzAll F).2 x v r
/-- An argument's, a result's cells, nil slices told as empty ones. -/
def argC (P : Program) (T : TypeId) : Av → Av
  | .c x => match ctys P T with | t :: _ => .c (coC t x) | [] => .c x
  | .agg xs => .agg (coL (ctys P T) xs)
  | x => x
theorem argC_rep {S : Nat → Prop} {hh : Nat → Option Ow} {T : TypeId} {x : Av} {v : Value} (h : RepA P S β hh w x v) : RepA P S β hh w (argC P T x) v := by
  unfold argC
  split
  · split
    · exact coC_rep h
    · exact h
  · obtain ⟨us, h1, h2⟩ := h; exact ⟨us, h1, coL_rep h2⟩
  · exact h
end
end Go.Smd
