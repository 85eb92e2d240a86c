/- A call whose function's body is walked with the caller's own blocks. Over any program. -/
import Derived.Test.YtphldfnnjoehpaaAg
set_option linter.unusedSimpArgs false
namespace Go.Smd
open Go.RowKit

def inK (l : List (Nat × Ow)) : List (Nat × Ow) := mapKV (fun i => i + zed) (Ow.ren fun i => i + zed) (dedupK l)
def mapR : List (Nat × Ow) → List (Nat × Nat)
  | [] => []
  | (k, _) :: l => (k + zed, k) :: mapR l
theorem mapR_eq : ∀ l : List (Nat × Ow), mapR l = l.map fun p => (p.1 + zed, p.1)
  | [] => rfl
  | (k, x) :: l => by rw [mapR, mapR_eq l]; rfl
def inR (l : List (Nat × Ow)) : List (Nat × Nat) := mapR (dedupK l)
def inOk (xs : List Av) (l : List (Nat × Ow)) : Bool := xs.all (fun x => x.ids.all (hasKey l)) && keysO (dedupK l) fun _ x => x.ids.all (hasKey l)
theorem inK_eq (l : List (Nat × Ow)) : inK l = (dedupK l).map fun p => (p.1 + zed, p.2.ren fun i => i + zed) := mapKV_eq _ _ _
theorem inR_eq (l : List (Nat × Ow)) : inR l = (dedupK l).map fun p => (p.1 + zed, p.1) := mapR_eq _
theorem mem_dedup {α : Type} : ∀ {l : List (Nat × α)} {p : Nat × α}, p ∈ dedupK l → p ∈ l
  | (k, x) :: l, p, h => by
    simp only [dedupK, filK_eq, List.mem_cons, List.mem_filter] at h ⊢
    rcases h with h | h
    · exact .inl h
    · exact .inr (mem_dedup h.1)
theorem nodup_dedup {α : Type} : ∀ l : List (Nat × α), ((dedupK l).map (·.1)).Nodup
  | [] => List.nodup_nil
  | (k, x) :: l => by
    simp only [dedupK, filK_eq, List.map_cons, List.nodup_cons]
    refine ⟨fun h => ?_, (nodup_dedup l).sublist (List.Sublist.map _ List.filter_sublist)⟩
    obtain ⟨q, hq, e⟩ := List.mem_map.1 h
    simp only [List.mem_filter, Bool.not_eq_true', beq_eq_false_iff_ne] at hq
    exact hq.2 e.symm
theorem key_dedup {α : Type} (l : List (Nat × α)) (i : Nat) : hasKey (dedupK l) i = hasKey l i := by
  cases h : hasKey l i with
  | true => obtain ⟨x, hx⟩ := hasKey_iff.1 h; exact hasKey_iff.2 ⟨x, (look_dedup l i).trans hx⟩
  | false =>
    cases h2 : hasKey (dedupK l) i with
    | false => rfl
    | true => obtain ⟨x, hx⟩ := hasKey_iff.1 h2; rw [look_dedup] at hx; rw [hasKey_iff.2 ⟨x, hx⟩] at h; cases h
theorem key_map {α β : Type} (l : List (Nat × α)) (g : Nat × α → Nat) (f : Nat × α → β) (i : Nat) : hasKey (l.map fun p => (g p, f p)) i = true ↔ ∃ p ∈ l, g p = i := by
  simp [hasKey_eq]
theorem key_mem {α : Type} {l : List (Nat × α)} {i : Nat} : hasKey l i = true ↔ ∃ p ∈ l, p.1 = i := by simp [hasKey_eq]
theorem Cl.ren_ren {f g : Nat → Nat} {x : Cl} (h : ∀ id ∈ x.ids, g (f id) = id) : (x.ren f).ren g = x := by
  cases x <;> simp [Cl.ren, Cl.ids] at h ⊢ <;> exact h
theorem map_ren_ren {f g : Nat → Nat} {xs : List Cl} (h : ∀ id ∈ xs.flatMap Cl.ids, g (f id) = id) : (xs.map (Cl.ren f)).map (Cl.ren g) = xs := by
  rw [List.map_map]
  conv => rhs; rw [← List.map_id xs]
  exact List.map_congr_left fun x hx => Cl.ren_ren fun id hid => h id (List.mem_flatMap.2 ⟨x, hx, hid⟩)
theorem Av.ren_ren {f g : Nat → Nat} {x : Av} (h : ∀ id ∈ x.ids, g (f id) = id) : (x.ren f).ren g = x := by
  cases x with
  | c x => simp only [Av.ren]; rw [Cl.ren_ren h]
  | agg xs => simp only [Av.ren]; rw [map_ren_ren h]
  | tup xs =>
    simp only [Av.ren, List.map_map]
    congr 1
    conv => rhs; rw [← List.map_id xs]
    refine List.map_congr_left fun p hp => ?_
    simp only [Function.comp_apply, id]
    rw [map_ren_ren fun id hid => h id (List.mem_flatMap.2 ⟨p, hp, hid⟩)]
  | any => rfl
theorem Ow.ren_ren {f g : Nat → Nat} {x : Ow} (h : ∀ id ∈ x.ids, g (f id) = id) : (x.ren f).ren g = x := by
  cases x with
  | cells xs T => simp only [Ow.ren]; rw [map_ren_ren h]
  | arr k E xs => rfl
  | clo f xs => simp only [Ow.ren]; rw [map_ren_ren h]
theorem Cl.ids_ren (f : Nat → Nat) (x : Cl) : (x.ren f).ids = x.ids.map f := by cases x <;> rfl
theorem map_ids_ren (f : Nat → Nat) (xs : List Cl) : (xs.map (Cl.ren f)).flatMap Cl.ids = (xs.flatMap Cl.ids).map f := by
  induction xs with
  | nil => rfl
  | cons x xs ih => simp only [List.map_cons, List.flatMap_cons, ih, Cl.ids_ren, List.map_append]
theorem Av.ids_ren (f : Nat → Nat) (x : Av) : (x.ren f).ids = x.ids.map f := by
  cases x with
  | c x => exact Cl.ids_ren f x
  | agg xs => exact map_ids_ren f xs
  | tup xs =>
    simp only [Av.ren, Av.ids]
    induction xs with
    | nil => rfl
    | cons p xs ih => simp only [List.map_cons, List.flatMap_cons, ih, map_ids_ren, List.map_append]
  | any => rfl
theorem Ow.ids_ren (f : Nat → Nat) (x : Ow) : (x.ren f).ids = x.ids.map f := by
  cases x with
  | cells xs T => exact map_ids_ren f xs
  | arr k E xs => rfl
  | clo g xs => exact map_ids_ren f xs

section
variable {P : Program} {N : Nat} {ops : Array Oper} {σ : St} {o : Oper} {os : List Oper} {K : St → Prop}
theorem renI_in (l : List (Nat × Ow)) (t : Nat) {i : Nat} (h : hasKey l i = true) : renI (inR l) t (i + zed) = i := by
  unfold renI
  have : look (inR l) (i + zed) = some i := by
    rw [← key_dedup] at h
    obtain ⟨p, hp, rfl⟩ := key_mem.1 h
    refine look_of_mem (l := inR l) ?_ (p := (p.1 + zed, p.1)) (by rw [inR_eq]; exact List.mem_map.2 ⟨p, hp, rfl⟩)
    have := nodup_dedup l
    rw [inR_eq, List.map_map]
    exact List.pairwise_map.2 ((List.pairwise_map.1 this).imp fun h e => h (by simpa using e))
  rw [this]
variable (P N ops os K σ) in
/-- What is left to show when the callee's body is done. -/
def BackR (d : Option Tmp) (r : Av) (own' : List (Nat × Ow)) : Prop := backOk σ (inR σ.own) (d.getD 0) own' = true ∧ opsA P N ops os ((σ.back (inR σ.own) (d.getD 0) own').put d ((r.ren (renI (inR σ.own) (d.getD 0))).fix (look (backH σ (inR σ.own) (d.getD 0) own')))) K
theorem vk_i {d : Option Tmp} {f : FuncId} {xs ys args : List Av} {Ts : List TypeId} {own0 : List (Nat × Ow)} {fn : Func} {c : Code} {N' : Nat} {rs : Array ResultVar} (he : o.dst = d) (hw : wstep P σ o = none) (hc : calleeOf P σ o = some (f, xs, Ts)) (hA : argsC P [] σ.h xs Ts = ys) (hok : inOk ys σ.own = true)
    (hY : ys.map (Av.ren fun i => i + zed) = args) (hO : inK σ.own = own0) (hf : P.funcs[f]? = some fn) (hn : (fn.name == "runtime.NumGoroutine") = false) (hb : fn.body = some c) (hN : fn.ntmps = N') (hrs : fn.results = rs) (hl : args.length ≤ N')
    (h : (∀ x ∈ args, x.isD = true → okA P x) → ∀ w0 S0, AWp P N' w0 S0 c (FinPQ P rs.toList (BackR P N ops σ os K d)) ⟨startL 0 args, own0⟩) : VK P N ops σ o os K d none := by
  subst hA; subst hO; subst hY
  simp only [inOk, keysO_eq, Bool.and_eq_true, List.all_eq_true] at hok
  obtain ⟨hok1, hok2⟩ := hok
  have keyO : ∀ i, hasKey (inK σ.own) (i + zed) = hasKey σ.own i := fun i => by
    rw [← key_dedup σ.own]
    cases hq : hasKey (dedupK σ.own) i with
    | true => obtain ⟨p, hp, rfl⟩ := key_mem.1 hq; rw [inK_eq]; exact (key_map _ _ _ _).2 ⟨p, hp, rfl⟩
    | false =>
      cases h2 : hasKey (inK σ.own) (i + zed) with
      | false => rfl
      | true =>
        rw [inK_eq] at h2
        obtain ⟨p, hp, e⟩ := (key_map _ _ _ _).1 h2
        rw [key_mem.2 ⟨p, hp, by omega⟩] at hq; cases hq
  refine vk_p (ρ := inR σ.own) (own0 := inK σ.own) (R := BackR P N ops σ os K d) (args := (argsC P [] σ.h xs Ts).map (Av.ren fun i => i + zed)) (d.getD 0) he hw hc ?_ ?_ ?_ (aproc_of hf hn hb hN hrs hl h) fun r own' h => h
  · rw [List.map_map]
    conv => lhs; rw [← List.map_id (argsC P [] σ.h xs Ts)]
    refine List.map_congr_left fun x hx => ?_
    simp only [Function.comp_apply, id]
    exact (Av.ren_ren fun i hi => renI_in σ.own _ (hok1 x hx i hi)).symm
  · simp only [handOk, keysO_eq, Bool.and_eq_true, List.all_eq_true, decide_eq_true_eq]
    have nodupB_of : ∀ {l : List Nat}, l.Nodup → nodupB l = true := by
      intro l
      induction l with
      | nil => intro _; rfl
      | cons x l ih => intro h; rw [List.nodup_cons] at h; simp only [nodupB, Bool.and_eq_true, Bool.not_eq_true']; exact ⟨by simpa using h.1, ih h.2⟩
    refine ⟨⟨⟨⟨⟨nodupB_of ?_, nodupB_of ?_⟩, ?_⟩, ?_⟩, ?_⟩, ?_⟩
    · rw [inR_eq, List.map_map]
      exact List.pairwise_map.2 ((List.pairwise_map.1 (nodup_dedup σ.own)).imp fun h e => h (by simpa using e))
    · rw [inR_eq, List.map_map]; exact nodup_dedup σ.own
    · intro p hp; rw [inR_eq] at hp; obtain ⟨q, _, rfl⟩ := List.mem_map.1 hp; exact Nat.le_add_left _ _
    · intro p hp
      rw [inK_eq] at hp
      obtain ⟨q, hq, rfl⟩ := List.mem_map.1 hp
      refine ⟨by rw [inR_eq]; exact (key_map _ _ _ _).2 ⟨q, hq, rfl⟩, fun i hi => ?_⟩
      rw [Ow.ids_ren] at hi
      obtain ⟨j, hj, rfl⟩ := List.mem_map.1 hi
      rw [keyO]; exact hok2 q hq j hj
    · intro x hx
      obtain ⟨y, hy, rfl⟩ := List.mem_map.1 hx
      intro i hi
      rw [Av.ids_ren] at hi
      obtain ⟨j, hj, rfl⟩ := List.mem_map.1 hi
      rw [keyO]; exact hok1 y hy j hj
    · intro p hp; rw [inR_eq] at hp; obtain ⟨q, hq, rfl⟩ := List.mem_map.1 hp; rw [inK_eq]; exact (key_map _ _ _ _).2 ⟨q, hq, rfl⟩
  · have key : ∀ l : List (Nat × Ow), (∀ p ∈ l, p ∈ dedupK σ.own) → handed σ.h (renI (inR σ.own) (d.getD 0)) (l.map fun p => (p.1 + zed, p.2.ren fun i => i + zed)) := by
      intro l
      induction l with
      | nil => intro _; trivial
      | cons p l ih =>
        intro hl
        have hp := hl p (List.mem_cons_self ..)
        have hk : hasKey σ.own p.1 = true := by rw [← key_dedup]; exact key_mem.2 ⟨p, hp, rfl⟩
        refine ⟨?_, ih fun q hq => hl q (List.mem_cons_of_mem _ hq)⟩
        show σ.h (renI (inR σ.own) (d.getD 0) (p.1 + zed)) = some _
        rw [renI_in σ.own _ hk, Ow.ren_ren fun i hi => renI_in σ.own _ (hok2 p hp i hi)]
        exact (look_dedup σ.own p.1).symm.trans (look_of_mem (nodup_dedup σ.own) hp)
    rw [inK_eq]; exact key _ fun p hp => hp
theorem fi_of {rs : List ResultVar} {d : Option Tmp} {σ' τ : St} {r r' : Av} {own' : List (Nat × Ow)} (h1 : resA P σ' rs = some r) (h2 : dedupK σ'.own = own') (h3 : backOk σ (inR σ.own) (d.getD 0) own' = true) (h4 : σ.back (inR σ.own) (d.getD 0) own' = τ)
    (h5 : (r.ren (renI (inR σ.own) (d.getD 0))).fix (look (backH σ (inR σ.own) (d.getD 0) own')) = r') (h : opsA P N ops os (τ.put d r') K) : FinP P rs (BackR P N ops σ os K d) σ' := by
  subst h2; subst h4; subst h5
  exact ⟨r, h1, h3, h⟩
theorem fp_of {rs : List ResultVar} {R : Av → List (Nat × Ow) → Prop} {σ' : St} {r : Av} {own' : List (Nat × Ow)} (h1 : resA P σ' rs = some r) (h2 : dedupK σ'.own = own') (h : R r own') : FinP P rs R σ' := by
  subst h2; exact ⟨r, h1, h⟩
/-- A call that is handed own blocks, what it gives told. -/
theorem vk_q {d : Option Tmp} {f : FuncId} {xs args : List Av} {Ts : List TypeId} {own0 ownB : List (Nat × Ow)} {ρ : List (Nat × Nat)} {r0 r' : Av} {τ : St} (t : Nat) (hR : AProc P f args own0 fun r own' => r = r0 ∧ own' = ownB) (he : o.dst = d) (hw : wstep P σ o = none) (hc : calleeOf P σ o = some (f, xs, Ts)) (hx : argsC P [] σ.h xs Ts = args.map (Av.ren (renI ρ t))) (ho : handOk ρ args own0 = true) (hh : handed σ.h (renI ρ t) own0)
    (hb : backOk σ ρ t ownB = true) (ht : σ.back ρ t ownB = τ) (hr : (r0.ren (renI ρ t)).fix (look (backH σ ρ t ownB)) = r') (h : opsA P N ops os (τ.put d r') K) : VK P N ops σ o os K d none := by
  subst ht; subst hr
  refine vk_p t he hw hc hx ho hh hR ?_
  rintro r own' ⟨rfl, rfl⟩
  exact ⟨hb, h⟩
theorem invoke_method {w : World} {T : TypeId} {y u : Value} {f : FuncId} {name : String} {fn : Func} (hm : ∀ n, (method (n + 1) T y name).run P w = .ok (f, u) w) (hf : P.funcs[f]? = some fn) (hn : (fn.name == "runtime.NumGoroutine") = false) (hb : fn.body.isSome = true) (us : Array Value) :
    (invoke (.fn (.method name) #[]) (#[.iface T y] ++ us)).run P w = .ok (.enter f (#[u] ++ us)) w := by
  obtain ⟨n, hn1⟩ := made_pos
  have hm' := hm (P.types.size + n)
  have hdep : P.types.size + Made.depth = P.types.size + n + 1 := by omega
  have hext : (#[Value.iface T y] ++ us).extract 1 (#[Value.iface T y] ++ us).size = us := by rw [← Array.toList_inj]; simp [List.take_of_length_le]
  have hget : (#[Value.iface T y] ++ us)[0]? = some (.iface T y) := by simp [Array.getElem?_append]
  simp only [invoke, Sem.run_bind, Sem.run_pure, Result.andThen_ok, hget, hext, callMethod]
  simp only [program, Sem.run_bind, Sem.run, Result.andThen_ok, hdep, hm']
  rw [run_callFunc hf hn hb]
/-- A deferred call of a method with no body does nothing. -/
theorem idle_of {T E : TypeId} {f : FuncId} {name : String} {fn : Func} (hm : P.meth T name = some (f, true)) (hp : P.ptrT T = some (some E)) (hf : P.funcs[f]? = some fn) (hn : (fn.name == "runtime.NumGoroutine") = false) (hb : fn.body = some .skip) (hr : fn.results = #[]) (y : Value) (us : Array Value) :
    Idle P { target := .fn (.method name) #[], args := #[.iface T y] ++ us } :=
  ⟨_, _, f, #[y] ++ us, rfl, fun w => ⟨invoke_method (fun n => method_ptr hm hp n y w) hf hn (by rw [hb]; rfl) us,
    (callsD_of_wp (R := fun e w' => ∃ v, e = .returned v ∧ w' = w) hf hb (wp_skip ⟨rfl, .tuple #[], by simp [results, hr], _, rfl, rfl⟩)).mono fun e u' w' ⟨h1, v, h2, h3⟩ => ⟨v, h2, h1, h3⟩⟩⟩
theorem fpq_r {rs : List ResultVar} {R : Av → List (Nat × Ow) → Prop} {σ' : St} (h : FinP P rs R σ') : FinPQ P rs R .ret σ' := h
theorem fpq_n {rs : List ResultVar} {R : Av → List (Nat × Ow) → Prop} {σ' : St} (h : FinP P rs R σ') : FinPQ P rs R .normal σ' := h
end
end Go.Smd
