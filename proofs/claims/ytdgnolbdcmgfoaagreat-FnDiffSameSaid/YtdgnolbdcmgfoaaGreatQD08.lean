/- Part 8. -/
import Derived.Test.YtdgnolbdcmgfoaaGreatQD07
import Derived.Deep.LoopGhost
set_option linter.unusedVariables false
set_option linter.unusedSimpArgs false
set_option maxRecDepth 100000
set_option maxHeartbeats 8000000
section
namespace Go.Smd
open Go.RowKit
section
variable (P:Program) (N:Nat) (w0:World) (S0:Env)
def AWp (c:Code)(Q:Exit→St→Prop)(σ:St):Prop:=∀β a w,Sim P N w0 S0 β σ a w→c.wp P (fun e a' w'=>∃β' σ',Q e σ'∧Sim P N w0 S0 β' σ' a' w') a w
def Weak (σ σ':St):Prop:=∀β a w,Sim P N w0 S0 β σ a w→∃β',Sim P N w0 S0 β' σ' a w
end
def zqc (K:St→Prop)(Q:Exit→St→Prop):Exit→St→Prop
 | .normal,σ=>K σ
 |e,σ=>Q e σ
def zhP (id:Nat)(Q:Exit→St→Prop):Exit→St→Prop
 | .exit id',σ=>if id'=id then Q .normal σ else Q (.exit id') σ
 |e,σ=>Q e σ
section
variable {P:Program} {N:Nat} {w0:World} {S0:Env} {Q:Exit→St→Prop} {σ:St}
theorem AWp.mono {c:Code}{Q':Exit→St→Prop}(h:AWp P N w0 S0 c Q σ)(k:∀e σ,Q e σ→Q' e σ):AWp P N w0 S0 c Q' σ:=
 fun β a w s=>wp_mono (h β a w s) fun e a w ⟨β',σ',q,s'⟩=>⟨β',σ',k e σ' q,s'⟩
theorem AWp.weak {c:Code}{σ':St}(h:Weak P N w0 S0 σ σ')(k:AWp P N w0 S0 c Q σ'):AWp P N w0 S0 c Q σ:=fun β a w s=>let ⟨β',s'⟩:=h β a w s;k β' a w s'
theorem Weak.refl:Weak P N w0 S0 σ σ:=fun β _ _ s=>⟨β,s⟩
theorem Weak.trans {σ1 σ2:St}(h:Weak P N w0 S0 σ σ1)(k:Weak P N w0 S0 σ1 σ2):Weak P N w0 S0 σ σ2:=fun β a w s=>let ⟨β',s'⟩:=h β a w s;k β' a w s'
theorem zuR {x y:Code}(h:∀K:St→Prop,(∀σ,AWp P N w0 S0 y Q σ→K σ)→AWp P N w0 S0 x (zqc K Q) σ):AWp P N w0 S0 (.seq x y) Q σ:=fun β a w s=>by
 refine wp_seq (wp_mono (h _ (fun _ h=>h) β a w s) ?_)
 rintro e a' w' ⟨β',σ',q,s'⟩
 cases e with
 |normal=>exact q β' a' w' s'
 |_=>exact ⟨β',σ',q,s'⟩
theorem zsN {c:Operand}{x y:Code}{t:Bool}(hc:σ.ev c= .c (.d (.v (.bool t))))(ht:t=true→AWp P N w0 S0 x Q σ)(hf:t=false→AWp P N w0 S0 y Q σ):AWp P N w0 S0 (.cond c x y) Q σ:=fun β a w s=>by
 have hr:=s.ev c
 rw[hc] at hr
 refine wp_cond_split (ZL hr).1 (fun e=>ht e β a w s) fun e=>hf e β a w s
theorem zsO (h:Q .normal σ):AWp P N w0 S0 .skip Q σ:=fun β _ _ s=>wp_skip ⟨β,σ,h,s⟩
theorem zqd {l:Nat}(h:Q .normal σ):AWp P N w0 S0 (.label l) Q σ:=fun β _ _ s=>wp_label ⟨β,σ,h,s⟩
theorem zsP {id:Nat}(h:Q (.exit id) σ):AWp P N w0 S0 (.exit id) Q σ:=fun β _ _ s=>wp_exit ⟨β,σ,h,s⟩
theorem zuS (h:Q .ret σ):AWp P N w0 S0 .ret Q σ:=fun β _ _ s=>wp_ret ⟨β,σ,h,s⟩
theorem zqe {id:Nat}{c:Code}(h:AWp P N w0 S0 c (zhP id Q) σ):AWp P N w0 S0 (.block id c) Q σ:=fun β a w s=>by
 refine wp_block (wp_mono (h β a w s) ?_)
 rintro e a' w' ⟨β',σ',q,s'⟩
 cases e with
 |exit id'=>
  simp only [Exit.inBlock]
  simp only [zhP] at q
  split
  ·next h=>rw[if_pos h] at q;exact ⟨β',σ',q,s'⟩
  ·next h=>rw[if_neg h] at q;exact ⟨β',σ',q,s'⟩
 |_=>exact ⟨β',σ',q,s'⟩
theorem zoS {id:Nat}{l:List Oper}(h:zhI P N l.toArray l σ (Q .normal)):AWp P N w0 S0 (.region id l.toArray false) Q σ:=fun β a w s=>
 wp_region_lit (zhO (fun β σ a w k s=>⟨β,σ,k,s⟩) _ β σ a w h s)
theorem zsQ {X:Type}{c:Code}(inv:X→St)(ok:X→Prop)(μ:X→Nat)(x0:X)(h0:Weak P N w0 S0 σ (inv x0))(k0:ok x0)
  (round:∀x,ok x→∀K:St→Prop,(∀σ' x',Weak P N w0 S0 σ' (inv x')→ok x'→μ x'<μ x→K σ')→AWp P N w0 S0 c (zqc K Q) (inv x)):AWp P N w0 S0 (.loop c) Q σ:=fun β a w s=>by
 obtain ⟨β0,s0⟩:=h0 β a w s
 refine wp_loop_ghost (fun n a w=>∃β x,μ x=n∧ok x∧Sim P N w0 S0 β (inv x) a w) (μ x0) ⟨β0,x0,rfl,k0,s0⟩ ?_
 rintro n a w ⟨β,x,rfl,hx,s⟩
 refine wp_mono (round x hx _ (fun σ' x' h1 h2 h3=>(⟨x',h1,h2,h3⟩:∃x',Weak P N w0 S0 σ' (inv x')∧ok x'∧μ x'<μ x)) β a w s) ?_
 rintro e a' w' ⟨β',σ',q,s'⟩
 cases e with
 |normal=>
  obtain ⟨x',h1,h2,h3⟩:=q
  obtain ⟨β2,s2⟩:=h1 β' a' w' s'
  exact ⟨μ x',h3,β2,x',rfl,h2,s2⟩
 |_=>exact ⟨β',σ',q,s'⟩
def AvLe (P:Program)(x y:Av):Prop:=∀S β h w v,RepA P S β h w x v→RepA P S β h w y v
theorem AvLe.refl (x:Av):AvLe P x x:=fun _ _ _ _ _ h=>h
theorem AvLe.any (x:Av):AvLe P x .any:=fun _ _ _ _ _ _=>trivial
theorem AvLe.nil (E:TypeId):AvLe P (.c (.d (.v (.slice none 0 0)))) (.c (.d (.sl E []))):=fun S β h w v k=>by
 obtain ⟨rfl,_⟩:=ZL k
 exact RepD.nil E
def OwLe (P:Program)(x y:Ow):Prop:=(∀S β h w v,zky P S β h w v x→zky P S β h w v y)∧(∀xs T,x= .cells xs T→∃xs' T',y= .cells xs' T')∧(∀v E xs,x= .arr v E xs→∃E' xs',y= .arr v E' xs')∧(∀f xs,x= .clo f xs→∃f' xs',y= .clo f' xs')∧(∀b∈y.fp,b∈x.fp)
theorem zkE {x y:Ow}(h:OwLe P x y){v:Value}{b:Nat}(k:occ v y b):occ v x b:=k.imp id (h.2.2.2.2 b)
theorem OwLe.refl (x:Ow):OwLe P x x:=⟨fun _ _ _ _ _ h=>h,fun xs T h=>⟨xs,T,h⟩,fun v E xs h=>⟨E,xs,h⟩,fun f xs h=>⟨f,xs,h⟩,fun _ h=>h⟩
def ClLe (P:Program)(x y:Cl):Prop:=∀S β h w v,RepC P S β h w x v→RepC P S β h w y v
theorem ClLe.refl (x:Cl):ClLe P x x:=fun _ _ _ _ _ h=>h
theorem ClLe.nil (E:TypeId):ClLe P (.d (.v (.slice none 0 0))) (.d (.sl E [])):=fun S β h w v k=>AvLe.nil E S β h w v k
theorem OwLe.cells {xs ys:List Cl}{T:TypeId}(h:All2 (ClLe P) xs ys):OwLe P (.cells xs T) (.cells ys T):=
 ⟨fun S β hh w v ⟨b,us,h1,h2,h3⟩=>⟨b,us,h1,h2,All2.of (by rw[←h.length,h3.length]) fun i y u hy hu=>by
  obtain ⟨x,hx,hle⟩:=h.at' hy
  obtain ⟨u',hu',hr⟩:=h3.at hx
  rw[hu] at hu';cases hu'
  exact hle _ _ _ _ _ hr⟩,fun _ _ _=>⟨_,_,rfl⟩,fun _ _ _ h=>(by cases h),fun _ _ h=>(by cases h),fun b hb=>by simp [Ow.fp] at hb⟩
theorem AvLe.agg {xs ys:List Cl}(h:All2 (ClLe P) xs ys):AvLe P (.agg xs) (.agg ys):=fun S β hh w v ⟨us,h1,h3⟩=>⟨us,h1,All2.of (by rw[←h.length,h3.length]) fun i y u hy hu=>by
  obtain ⟨x,hx,hle⟩:=h.at' hy
  obtain ⟨u',hu',hr⟩:=h3.at hx
  rw[hu] at hu';cases hu'
  exact hle _ _ _ _ _ hr⟩
def keys {α:Type}(l:List (Nat×α)):List Nat:=l.map (·.1)
def zg (tl:List (Nat×Av))(hl:List (Nat×Ow)):Bool:=tl.all (fun p=>p.2.ids.all fun i=>(keys hl).contains i) && hl.all fun p=>p.2.ids.all fun i=>(keys hl).contains i
theorem zdw {α:Type}:∀{l:List (Nat×α)} {n:Nat},n∈keys l→∃x,zd l n=some x
 | [],_,h=>by simp [keys] at h
 |(k,y)::l,n,h=>by
  simp only [zd]
  by_cases e:k=n
  ·exact ⟨y,by rw[if_pos e]⟩
  ·rw[if_neg e]
   exact zdw (by simp only [keys,List.map_cons,List.mem_cons] at h;rcases h with h|h;exact absurd h.symm e;exact h)
theorem Weak.forget {tl:List (Nat×Av)}{hl:List (Nat×Ow)}(ht:∀p∈tl,AvLe P (σ.tmp p.1) p.2∧(∀id∈p.2.ids,id∈(σ.tmp p.1).ids))(hh:∀p∈hl,∃o,σ.h p.1=some o∧OwLe P o p.2)(hc:zg tl hl=true):Weak P N w0 S0 σ ⟨tl,hl⟩:=by
 intro β a w s
 have hsub:∀id o,(St.mk tl hl).h id=some o→∃o',σ.h id=some o'∧OwLe P o' o:=fun id o h=>hh _ (Zn h)
 simp only [zg,Bool.and_eq_true,List.all_eq_true] at hc
 have hS:∀b,Sd w0 S0 β σ.h w b→Sd w0 S0 β (St.mk tl hl).h w b:=fun b hb=>⟨hb.1,hb.2.1,fun id o h hc=>by obtain ⟨o',h',hle⟩:=hsub id o h;exact hb.2.2 id o' h' (zkE hle hc)⟩
 have fix:∀{x:Cl} {v:Value},(∀id∈x.ids,id∈keys hl)→RepC P (Sd w0 S0 β σ.h w) β σ.h w x v→RepC P (Sd w0 S0 β (St.mk tl hl).h w) β (St.mk tl hl).h w x v:=by
  intro x v hx r
  cases x with
  |d x=>exact RepD.mono r hS
  |own id off=>
   obtain ⟨xs,T,b,h1,h2,h3⟩:=r
   obtain ⟨o,ho⟩:=zdw (hx id (by simp [Cl.ids]))
   obtain ⟨o',h4,hle⟩:=hsub id o ho
   rw[h1] at h4;cases h4
   obtain ⟨xs',T',rfl⟩:=hle.2.1 xs T rfl
   exact ⟨xs',T',b,ho,h2,h3⟩
  |gs id n=>
   obtain ⟨ver,E,xs,h1,h2,h3,h4⟩:=r
   obtain ⟨o,ho⟩:=zdw (hx id (by simp [Cl.ids]))
   obtain ⟨o',h5,hle⟩:=hsub id o ho
   rw[h1] at h5;cases h5
   obtain ⟨E',xs',rfl⟩:=hle.2.2.1 ver E xs rfl
   exact ⟨ver,E',xs',ho,h2,h3,h4⟩
  |ga id n sz i=>
   obtain ⟨ver,E,xs,h1,h2,h3,h4⟩:=r
   obtain ⟨o,ho⟩:=zdw (hx id (by simp [Cl.ids]))
   obtain ⟨o',h5,hle⟩:=hsub id o ho
   rw[h1] at h5;cases h5
   obtain ⟨E',xs',rfl⟩:=hle.2.2.1 ver E xs rfl
   exact ⟨ver,E',xs',ho,h2,h3,h4⟩
  |io T id off=>
   obtain ⟨xs,T,b,h1,h2,h3⟩:=r
   obtain ⟨o,ho⟩:=zdw (hx id (by simp [Cl.ids]))
   obtain ⟨o',h4,hle⟩:=hsub id o ho
   rw[h1] at h4;cases h4
   obtain ⟨xs',T',rfl⟩:=hle.2.1 xs T rfl
   exact ⟨xs',T',b,ho,h2,h3⟩
  |fn id=>
   obtain ⟨f,xs,h1,h2,h3⟩:=r
   obtain ⟨o,ho⟩:=zdw (hx id (by simp [Cl.ids]))
   obtain ⟨o',h4,hle⟩:=hsub id o ho
   rw[h1] at h4;cases h4
   obtain ⟨f',xs',rfl⟩:=hle.2.2.2.1 f xs rfl
   exact ⟨f',xs',ho,h2,h3⟩
  |un=>exact r
 refine ⟨β,s.ext,s.hK,fun i o0 hi0=>⟨(s.kept i o0 hi0).1,fun o ho=>?_⟩,fun i j oi oj b hi hj=>?_,fun i o b hi=>?_,fun i o hi=>?_,fun t=>?_,s.sz,s.dfr⟩
 ·obtain ⟨o1,h1,hle⟩:=hsub i o ho
  have hk:=(s.kept i o0 hi0).2 o1 h1
  cases o1 with
  |cells xs T=>obtain ⟨xs',T',rfl⟩:=hle.2.1 xs T rfl;cases o0<;>first|exact hk|exact hk.elim
  |arr v E xs=>obtain ⟨E',xs',rfl⟩:=hle.2.2.1 v E xs rfl;cases o0<;>first|exact hk|exact hk.elim
  |clo f xs=>obtain ⟨f',xs',rfl⟩:=hle.2.2.2.1 f xs rfl;cases o0<;>first|exact hk|exact hk.elim
 ·obtain ⟨o1,h1,l1⟩:=hsub i oi hi;obtain ⟨o2,h2,l2⟩:=hsub j oj hj;exact fun k1 k2=>s.inj i j o1 o2 b h1 h2 (zkE l1 k1) (zkE l2 k2)
 ·obtain ⟨o1,h1,l1⟩:=hsub i o hi;exact fun k1=>s.new i o1 b h1 (zkE l1 k1)
 ·obtain ⟨o',h1,hle⟩:=hsub i o hi
  have hr:=hle.1 _ _ _ _ _ (s.own i o' h1)
  have hmem:=hc.2 _ (Zn hi)
  cases o with
  |cells xs T=>
   obtain ⟨b,us,h3,h4,h5⟩:=hr
   refine ⟨b,us,h3,h4,h5.imp fun x _ hx r=>fix (fun id hid=>?_) r⟩
   have:=hmem id (List.mem_flatMap.2 ⟨x,hx,hid⟩)
   simpa using this
  |arr ver E xs=>
   obtain ⟨h3,h4,h5⟩:=hr
   exact ⟨h3.frame (zr P) (fun _ _=>rfl) (fun _ _=>rfl) (fun _ h=>h) hS,h4,h5⟩
  |clo f xs=>
   obtain ⟨us,h3,h5⟩:=hr
   refine ⟨us,h3.mono hS,h5.imp fun x _ hx r=>fix (fun id hid=>?_) r⟩
   have:=hmem id (List.mem_flatMap.2 ⟨x,hx,hid⟩)
   simpa using this
 ·cases hx:zd tl t with
  |none=>simp only [St.tmp,hx,Option.getD_none];trivial
  |some x=>
   have hm:=Zn hx
   have e:(St.mk tl hl).tmp t=x:=by simp [St.tmp,hx]
   rw[e]
   have hr:=(ht _ hm).1 _ _ _ _ _ (s.tmp t)
   have hk:=hc.1 _ hm
   simp only at hr hk
   cases x with
   |c x=>exact fix (fun id hid=>by have:=hk id hid;simpa using this) hr
   |agg xs=>obtain ⟨us,hu,ha⟩:=hr;exact ⟨us,hu,ha.imp fun x _ hx r=>fix (fun id hid=>by have:=hk id (List.mem_flatMap.2 ⟨x,hx,hid⟩);simpa using this) r⟩
   |tup xs=>
    obtain ⟨us,hu,ha⟩:=hr
    refine ⟨us,hu,ha.imp fun p _ hp r=>?_⟩
    have hp':∀x∈p.2,∀id∈x.ids,id∈keys hl:=fun x hx id hid=>by
     have:=hk id (List.mem_flatMap.2 ⟨p,hp,List.mem_flatMap.2 ⟨x,hx,hid⟩⟩);simpa using this
    unfold RepP at*
    split at r
    ·next hb=>rw[if_pos hb];obtain ⟨us,hu,ha⟩:=r;exact ⟨us,hu,ha.imp fun x _ hx r=>fix (hp' x hx) r⟩
    ·next hb=>rw[if_neg hb];obtain ⟨y,hy,hr⟩:=r;exact ⟨y,hy,fix (hp' y (by rw[hy];simp)) hr⟩
   |any=>trivial
theorem Weak.same {tl:List (Nat×Av)}{hl:List (Nat×Ow)}(ht:∀p∈tl,σ.tmp p.1=p.2)(hh:∀p∈hl,σ.h p.1=some p.2)(hc:zg tl hl=true):Weak P N w0 S0 σ ⟨tl,hl⟩:=
 Weak.forget (fun p hp=>by rw[ht p hp];exact ⟨AvLe.refl _,fun _ h=>h⟩) (fun p hp=>⟨_,hh p hp,OwLe.refl _⟩) hc
def zkF (P:Program)(σ:St):ResultVar→Option Av
 | .tmp t=>some (σ.tmp t)
 | .cell t T=>(zbr P σ.h T (σ.tmp t)).map (zmU P T)
def zkG:Av→Option (Bool×List Cl)
 | .c x=>some (false,[x])
 | .agg xs=>some (true,xs)
 |_=>none
def zfj (P:Program)(σ:St):List ResultVar→Option (List Av)
 | []=>some []
 |r::rs=>match zkF P σ r,zfj P σ rs with
  |some x,some xs=>some (x::xs)
  |_,_=>none
def zeW:List Av→Option (List (Bool×List Cl))
 | []=>some []
 |x::xs=>match zkG x,zeW xs with
  |some p,some ps=>some (p::ps)
  |_,_=>none
def zdx (P:Program)(σ:St)(rs:List ResultVar):Option Av:=
 match zfj P σ rs with
 |some [x]=>some x
 |some xs=>(zeW xs).map .tup
 |none=>none
def zkH (tmps:Array Value):ResultVar→Sem Value
 | .tmp t=>pure (tmps.getD t undef)
 | .cell b t=>do loadVar t (←asAddr (tmps.getD b undef))
theorem zmW (fn:Func)(tmps:Array Value):results fn tmps=(do
 let vs ←fn.results.mapM (zkH tmps)
 pure (if h:vs.size=1 then vs[0] else .tuple vs)):=rfl
theorem zhQ {β:Nat→Value}{a:Act}{w:World}(s:Sim P N w0 S0 β σ a w):∀{rs:List ResultVar} {xs:List Av},zfj P σ rs=some xs→
  ∃us,(rs.mapM (zkH a.tmps)).run P w= .ok us w∧All2 (RepA P (Sd w0 S0 β σ.h w) β σ.h w) xs us
 | [],xs,h=>by simp only [zfj] at h;cases h;exact ⟨[],by simp,.nil⟩
 |r::rs,xs,h=>by
  simp only [zfj] at h
  split at h
  ·next x xs' h1 h2=>
   cases h
   obtain ⟨us,h3,h4⟩:=zhQ s h2
   cases r with
   |tmp t=>
    simp only [zkF] at h1;cases h1
    refine ⟨a.tmps.getD t undef::us,?_,.cons (s.tmp t) h4⟩
    simp only [List.mapM_cons,zkH,Sem.run_bind,Sem.run_pure,Result.andThen_ok,h3]
   |cell b T=>
    simp only [zkF] at h1
    obtain ⟨x0,h10,rfl⟩:=Option.map_eq_some_iff.1 h1
    obtain ⟨u,h5,h6⟩:=zeS s h10 (s.tmp b)
    replace h6:=zlF (T:=T) h6
    refine ⟨u::us,?_,.cons h6 h4⟩
    have hp:∃ad,a.tmps.getD b undef= .pointer (some ad):=by
     cases hv:a.tmps.getD b undef with
     |pointer q=>cases q with
      |none=>rw[hv] at h5;simp [Instr.loadAt,Instr.sureAddr,stuck,Sem.run_bind,Sem.run,Result.andThen] at h5
      |some ad=>exact ⟨ad,rfl⟩
     |_=>rw[hv] at h5;simp [Instr.loadAt,Instr.sureAddr,stuck,Sem.run_bind,Sem.run,Result.andThen] at h5
    obtain ⟨ad,hp⟩:=hp
    rw[hp] at h5
    have h7:(loadVar T ad).run P w= .ok u w:=h5
    simp only [List.mapM_cons,zkH,hp,asAddr,Sem.run_bind,Sem.run_pure,Result.andThen_ok,h7,h3]
  ·cases h
theorem zmX {S:Nat→Prop}{β:Nat→Value}{h:Nat→Option Ow}{w:World}{x:Av}{p:Bool×List Cl}{v:Value}(hp:zkG x=some p)(r:RepA P S β h w x v):RepP P S β h w p v:=by
 unfold zkG at hp
 split at hp
 ·cases hp;exact (show (if (false:Bool) then _ else _) from by rw[if_neg (by decide)];exact ⟨_,rfl,r⟩)
 ·cases hp;exact (show (if (true:Bool) then _ else _) from by rw[if_pos rfl];exact r)
 ·cases hp
theorem zgQ {S:Nat→Prop}{β:Nat→Value}{h:Nat→Option Ow}{w:World}:∀{xs:List Av} {ps:List (Bool×List Cl)} {us:List Value},zeW xs=some ps→All2 (RepA P S β h w) xs us→All2 (RepP P S β h w) ps us
 | [],ps,us,hp,r=>by simp only [zeW] at hp;cases hp;cases r;exact .nil
 |x::xs,ps,us,hp,r=>by
  simp only [zeW] at hp
  split at hp
  ·next p ps' h1 h2=>
   cases hp
   cases r with
   |cons r t=>exact .cons (zmX h1 r) (zgQ h2 t)
  ·cases hp
theorem zlO {β:Nat→Value}{a:Act}{w:World}(s:Sim P N w0 S0 β σ a w){fn:Func}{r:Av}(h:zdx P σ fn.results.toList=some r):∃v,(results fn a.tmps).run P w= .ok v w∧RepA P (Sd w0 S0 β σ.h w) β σ.h w r v:=by
 have key:∀xs,zfj P σ fn.results.toList=some xs→∃us,All2 (RepA P (Sd w0 S0 β σ.h w) β σ.h w) xs us∧(results fn a.tmps).run P w= .ok (if h:us.length=1 then us[0] else .tuple us.toArray) w:=fun xs hx=>by
  obtain ⟨us,h1,h2⟩:=zhQ s hx
  refine ⟨us,h2,?_⟩
  rw[zmW,Array.mapM_eq_mapM_toList]
  simp [Sem.run_bind,h1,Result.andThen]
 unfold zdx at h
 split at h
 ·next x hx=>
  cases h
  obtain ⟨us,h1,h2⟩:=key _ hx
  cases h1 with
  |cons r t=>cases t;exact ⟨_,by simpa using h2,r⟩
 ·next xs hne hx=>
  obtain ⟨ps,hp,rfl⟩:=Option.map_eq_some_iff.1 h
  obtain ⟨us,h1,h2⟩:=key _ hx
  have hl:us.length≠1:=fun hl=>by
   rw[←h1.length] at hl
   match xs,hl with
   | [x],_=>exact hne x rfl
  rw[dif_neg hl] at h2
  exact ⟨_,h2,us,rfl,zgQ hp h1⟩
 ·cases h
def ZZ:Nat→List Av→List (Nat×Av)
 |_,[]=>[]
 |k,x::xs=>(k,x)::ZZ (k+1) xs
def Fin (P:Program)(rs:List ResultVar)(R:Av→Prop)(σ:St):Prop:=∃r r',zdx P σ rs=some r∧(zcO P (Av.deep σ.h r) σ.h r).isD=true∧AvLe P (zcO P (Av.deep σ.h r) σ.h r) r'∧R r'
def zwl (P:Program)(rs:List ResultVar)(R:Av→Prop):Exit→St→Prop
 | .normal,σ| .ret,σ=>Fin P rs R σ
 |_,_=>False
def St.start (args:List Av):St:=⟨ZZ 0 args,[]⟩
theorem zgR:∀(args:List Av) (k t:Nat),zd (ZZ k args) t=if k≤t then args[t - k]? else none
 | [],k,t=>by simp [ZZ,zd]
 |x::xs,k,t=>by
  rw[ZZ,zd]
  by_cases e:k=t
  ·rw[if_pos e,if_pos (by omega),e];simp
  ·rw[if_neg e,zgR xs (k+1) t]
   by_cases h:k≤t
   ·rw[if_pos h,if_pos (by omega)]
    have:t - k=(t - (k+1))+1:=by omega
    rw[this];simp
   ·rw[if_neg h,if_neg (by omega)]
theorem zjA (args:List Av)(t:Nat):(St.start args).tmp t=(args[t]?).getD .any:=by
 unfold St.start St.tmp
 simp only
 rw[zgR];simp
theorem zex {fn:Func}{tmps:Array Value}{R:Ending→World→Prop}{w:World}{v:Value}(hv:(results fn tmps).run P w= .ok v w)(hR:R (.returned v) w):∀ds:List Deferred,(∀d∈ds,zoK P d)→Leaves P fn tmps R ds .returning w
 | [],_=>⟨v,hv,hR⟩
 |d::ds,h=>by
  obtain ⟨fv,cap,f,args,h1,h2⟩:=h d (List.mem_cons_self ..)
  obtain ⟨h3,h4⟩:=h2 w
  refine ⟨fun h=>(by cases h),fv,cap,f,args,h1,h3,fun c cs hc=>?_⟩
  obtain ⟨e,u',w',fr,⟨v',rfl,rfl,rfl⟩,h6⟩:=h4 c cs hc
  exact ⟨_,_,_,fr,zex hv hR ds fun d hd=>h d (List.mem_cons_of_mem _ hd),h6⟩
theorem zoT {f:FuncId}{fn:Func}{c:Code}{args:List Av}{R:Av→Prop}{N:Nat}{rs:Array ResultVar}(hf:P.funcs[f]? =some fn)(hn:(fn.name== "runtime.NumGoroutine")=false)(hb:fn.body=some c)(hN:fn.ntmps=N)(hrs:fn.results=rs)(hl:args.length≤N)
  (h:(∀x∈args,okA P x)→∀w0 S0,AWp P N w0 S0 c (zwl P rs.toList R) (St.start args)):ACalls P f args R:=by
 subst hN;subst hrs
 refine ⟨⟨fn,hf,hn,by rw[hb];rfl⟩,fun w S vs hS ha=>?_⟩
 have hok:∀x∈args,okA P x:=fun x hx=>by
  obtain ⟨i,hi⟩:=List.getElem?_of_mem hx
  obtain ⟨u,_,hr⟩:=ha.at hi
  exact ⟨_,_,_,hr⟩
 have hlen:=ha.length
 refine calls_of_wp_defers hf hb ?_
 have s0:Sim P fn.ntmps w ⟨S,(· <w.heap.size),noH,noB⟩ noB (St.start args) { tmps:=vs.toArray++Array.replicate (fn.ntmps - vs.toArray.size) undef,defers:=[] } w:=by
  refine ⟨KExt.refl _ w,fun _ h=>h,fun i o0 h=>(by cases h),fun i j oi oj b hi=>(by cases hi),fun i o b hi=>(by cases hi),fun i o hi=>(by cases hi),fun t=>?_,by simp;omega,fun d hd=>(by cases hd)⟩
  rw[zjA]
  by_cases h:t<args.length
  ·rw[List.getElem?_eq_getElem h]
   obtain ⟨u,hu,hr⟩:=ha.at (List.getElem?_eq_getElem h)
   have hlt:t<vs.length:=by omega
   have:(vs.toArray++Array.replicate (fn.ntmps - vs.toArray.size) undef).getD t undef=u:=by
    have hu':vs[t]=u:=by rw[List.getElem?_eq_getElem hlt] at hu;exact Option.some.inj hu
    simp [Array.getElem?_append,hlt,hu']
   rw[this]
   simp only [Option.getD_some]
   refine hr.imp hr.noH fun d u k=>k.mono fun b hb=>⟨.inl hb,hS b hb,fun id o h=>by cases h⟩
  ·rw[List.getElem?_eq_none (by omega)];trivial
 refine wp_mono (h hok w ⟨S,(· <w.heap.size),noH,noB⟩ noB _ w s0) ?_
 rintro e a' w' ⟨β',σ',hq,s'⟩
 have hq2:(e= .normal∨e= .ret)∧Fin P fn.results.toList R σ':=by cases e<;>first|exact ⟨.inl rfl,hq⟩|exact ⟨.inr rfl,hq⟩|exact hq.elim
 obtain ⟨he,r0,r,h1,h2,hle,h3⟩:=hq2
 obtain ⟨v,hv,hr0⟩:=zlO s' h1
 have hr2:=RepA.frz s' hr0 (Av.deep σ'.h r0)
 have hr3:=hle _ _ _ _ _ (hr2.imp (S':=fun b=>S b∨w.heap.size≤b) (β':=noB) (h':=noH) (w':=w') h2 fun d u k=>k.mono fun b hb=>hb.1.imp id fun h=>Nat.le_of_not_lt h)
 have fin:=zex (R:=fun e w'=>∃v' r,e=Ending.returned v'∧R r∧RepA P (fun b=>S b∨w.heap.size≤b) noB noH w' r v'∧Ext w w') hv ⟨v,r,rfl,h3,hr3,s'.ext.toExt fun _ h=>h⟩ a'.defers s'.dfr
 rcases he with rfl|rfl<;>exact fin
def zsR (P:Program)(rs:List ResultVar)(R:Av→List (Nat×Ow)→Prop)(σ:St):Prop:=∃r,zdx P σ rs=some r∧R r (zZ σ.own)
def zqf (P:Program)(rs:List ResultVar)(R:Av→List (Nat×Ow)→Prop):Exit→St→Prop
 | .normal,σ| .ret,σ=>zsR P rs R σ
 |_,_=>False
theorem zfH {f:FuncId}{fn:Func}{c:Code}{args:List Av}{own:List (Nat×Ow)}{R:Av→List (Nat×Ow)→Prop}{N:Nat}{rs:Array ResultVar}(hf:P.funcs[f]? =some fn)(hn:(fn.name== "runtime.NumGoroutine")=false)(hb:fn.body=some c)(hN:fn.ntmps=N)(hrs:fn.results=rs)(hl:args.length≤N)
  (h:(∀x∈args,x.isD=true→okA P x)→∀w0 S0,AWp P N w0 S0 c (zqf P rs.toList R) ⟨ZZ 0 args,own⟩):AProc P f args own R:=by
 subst hN;subst hrs
 refine ⟨⟨fn,hf,hn,by rw[hb];rfl⟩,fun w E β vs s ha=>?_⟩
 have hok:∀x∈args,x.isD=true→okA P x:=fun x hx hd=>by
  obtain ⟨i,hi⟩:=List.getElem?_of_mem hx
  obtain ⟨u,_,hr⟩:=ha.at hi
  exact ⟨_,_,_,hr.data hd⟩
 have hlen:=ha.length
 refine calls_of_wp_defers hf hb ?_
 have s0:Sim P fn.ntmps w E β ⟨ZZ 0 args,own⟩ { tmps:=vs.toArray++Array.replicate (fn.ntmps - vs.toArray.size) undef,defers:=[] } w:=by
  refine ⟨s.ext,s.hK,s.kept,s.inj,s.new,s.own,fun t=>?_,by simp;omega,fun d hd=>(by cases hd)⟩
  have e:(St.mk (ZZ 0 args) own).tmp t=(args[t]?).getD .any:=zjA args t
  rw[e]
  by_cases h:t<args.length
  ·rw[List.getElem?_eq_getElem h]
   obtain ⟨u,hu,hr⟩:=ha.at (List.getElem?_eq_getElem h)
   have hlt:t<vs.length:=by omega
   have:(vs.toArray++Array.replicate (fn.ntmps - vs.toArray.size) undef).getD t undef=u:=by
    have hu':vs[t]=u:=by rw[List.getElem?_eq_getElem hlt] at hu;exact Option.some.inj hu
    simp [Array.getElem?_append,hlt,hu']
   rw[this]
   simp only [Option.getD_some]
   exact hr
  ·rw[List.getElem?_eq_none (by omega)];trivial
 refine wp_mono (h hok w E β _ w s0) ?_
 rintro e a' w' ⟨β',σ',hq,s'⟩
 have hq2:(e= .normal∨e= .ret)∧zsR P fn.results.toList R σ':=by cases e<;>first|exact ⟨.inl rfl,hq⟩|exact ⟨.inr rfl,hq⟩|exact hq.elim
 obtain ⟨he,r,h1,h3⟩:=hq2
 obtain ⟨v,hv,hr0⟩:=zlO s' h1
 have hh:(St.mk [] (zZ σ'.own)).h=σ'.h:=funext fun i=>zaU σ'.own i
 have s2:Sim P 0 w E β' ⟨[],zZ σ'.own⟩ zhG w':=⟨s'.ext,s'.hK,by rw[hh];exact s'.kept,by rw[hh];exact s'.inj,by rw[hh];exact s'.new,by rw[hh];exact s'.own,fun t=>trivial,rfl,fun d hd=>(by cases hd)⟩
 have fin:=zex (R:=fun e w'=>∃v r β' own',e=Ending.returned v∧R r own'∧Sim P 0 w E β' ⟨[],own'⟩ zhG w'∧RepA P (Sd w E β' (zd own') w') β' (zd own') w' r v) hv ⟨v,r,β',zZ σ'.own,rfl,h3,s2,by have e:zd (zZ σ'.own)=σ'.h:=hh;rw[e];exact hr0⟩ a'.defers s'.dfr
 rcases he with rfl|rfl<;>exact fin
end
section
variable {α:Type} {R:World→(Nat→Prop)→α→List Value→Prop} {e size:Nat} {S T:Nat→Prop} {w:World} {v:Value} {xs:List α}
theorem Build.appc {P:Program}(F:Framed R){t ty:TypeId}{z:Value}{bytes:Nat}(ht:P.underlying t=some (.slice e))(hinfo:(P.info? e).map (fun i=>(i.zero,i.size,i.bytes))=some (some z,size,bytes))(hzs:z.cells.size=size)(hsz:0<size)(hb0:0<bytes)
  (h:Build R e size S T w v xs) {ys:List α} {ds:List Value} {ad:Addr} {c:Nat} (hy:Elems (R w fun b=>T b∧v.ownBlock≠some b) size ys ds) (hc:∀j u,ds[j]? =some u→w.cell? (ad.add j)=some u) (h1:∀u∈ds,u.oneCell'=true)
  (hS:S w.heap.size) (hn:(xs.length+ys.length)*bytes≤140737488355328) (hpos:0<ys.length):
  ∃v' w',(Builtin.append_ #[t,t] ty #[v,.slice (some ad) ys.length c]).run P w= .ok v' w'∧Build R e size S T w' v' (xs++ys)∧w.grownBy w' v.ownBlock∧(∃A c,v'= .slice A (xs.length+ys.length) c)∧
   ((∃g cap,v= .slice (some ⟨g,0,none⟩) xs.length cap∧v'= .slice (some ⟨g,0,none⟩) (xs.length+ys.length) cap∧xs.length+ys.length≤cap)∨(v'.ownBlock=some w.heap.size∧Ext w w'∧∀g cap,v= .slice (some ⟨g,0,none⟩) xs.length cap→cap<xs.length+ys.length)):=by
 obtain ⟨v',w',hr,hB,hg,hat,hv⟩:=Build.app (P:=P) (ty:=ty) F ht hinfo hzs hsz hb0 h hy hc h1 hS hn
 refine ⟨v',w',hr,hB,hg,hv,?_⟩
 obtain ⟨i0,hi,hzz⟩:=Option.map_eq_some_iff.1 hinfo
 simp only [Prod.mk.injEq] at hzz
 obtain ⟨hz0,hz1,hz2⟩:=hzz
 subst hz1;subst hz2
 obtain ⟨cs,ho,_,_⟩:=h
 have hlen:xs.length+ys.length≤140737488355328:=Nat.le_trans (Nat.le_mul_of_pos_right _ hb0) hn
 have hex:∀o:Obj,Ext w (w.drew.alloc o):=fun o=>(Ext.refl w).drew.alloc o
 rcases ho.2 with ⟨hv0,h0⟩|⟨g,cap,cur,hv0,_,hg0,hnc,hcm,hcs,htake⟩
 ·subst hv0
  have hr2:=run_append_nil (P:=P) w t ty e i0 z ht hi hz0 ad ys.length c ds hy.1 hc hpos (by omega) (by rw[h0] at hn;simp only [Nat.zero_add] at hn;omega)
  rw[hr] at hr2
  injection hr2 with e1 e2
  subst e1;subst e2
  exact .inr ⟨rfl,hex _,fun g cap h=>by cases h⟩
 ·by_cases hroom:xs.length+ys.length≤cap
  ·have hfit:xs.length*i0.size+ds.length≤cur.size:=by rw[hy.1,hcs,←Nat.add_mul];exact Nat.mul_le_mul_right _ hroom
   subst hv0
   have hr2:=run_append_room (P:=P) w t ty e i0 ht hi g xs.length cap cur hg0 ad ys.length c ds hy.1 hc h1 hroom hfit
   rw[hr] at hr2
   injection hr2 with e1 e2
   exact .inl ⟨g,cap,rfl,e1,hroom⟩
  ·have holds:=ho.cells (g:=g) (by rw[hv0];rfl)
   subst hv0
   have hr2:=run_append_grow (P:=P) w t ty e i0 z ht hi hz0 ⟨g,0,none⟩ xs.length cap cs ho.1 holds ad ys.length c ds hy.1 hc (by omega) (by omega) (growslice_fits (by omega) hn)
   rw[hr] at hr2
   injection hr2 with e1 e2
   subst e1;subst e2
   exact .inr ⟨rfl,hex _,fun g' cap' h=>by injection h with _ _ h3;omega⟩
end
section
variable {P:Program} {N:Nat} {w0:World} {S0:Env} {β:Nat→Value} {σ:St} {a:Act} {w:World}
theorem Sim.push (s:Sim P N w0 S0 β σ a w){q n ver E:Nat}{xs:List (List D)}{y:List D}{T ty:TypeId}{ds:List Value}{ad:Addr}{c:Nat}(hT:P.elemT T=some E)(hE:P.appOk E=true)(hid:σ.h q=some (.arr ver E xs))(hn:n<zed)(hnn:σ.h n=none)(hb:(xs.length+1)*P.bytesOf E≤140737488351232)
  (hy:RDs P w (Sd w0 S0 β σ.h w) y ds) (hyl:y.length=P.cellsOf E) (hc:∀j u,ds[j]? =some u→w.cell? (ad.add j)=some u):
  ∃v' w',(Builtin.append_ #[T,T] ty #[β q,.slice (some ad) 1 c]).run P w= .ok v' w'∧
   ((∃g cap,β q= .slice (some ⟨g,0,none⟩) xs.length cap∧v'= .slice (some ⟨g,0,none⟩) (xs.length+1) cap∧xs.length+1≤cap∧Sim P N w0 S0 (fun i=>if i=q then v' else β i) (σ.new q (.arr (ver+1) E (xs++ [y]))) a w')∨
    (∀g cap,β q= .slice (some ⟨g,0,none⟩) xs.length cap→cap<xs.length+1)∧v'.oneCell'=true∧Sim P N w0 S0 (fun i=>if i=n then v' else β i) (σ.new n (.arr (ver+1) E (xs++ [y]))) a w'):=by
 obtain ⟨z,hi,hz,hp,hbp⟩:=zcd hE
 obtain ⟨hB,_,hlen⟩:=s.own q _ hid
 have hown:∀b,Sd w0 S0 β σ.h w b→(β q).ownBlock≠some b:=fun b hb hc=>hb.2.2 q _ hid (.inl (by
  obtain ⟨A,c,hs⟩:=hB.slice
  rw[hs] at hc ⊢;exact hc))
 have hy2:RDs P w (fun b=>Sd w0 S0 β σ.h w b∧(β q).ownBlock≠some b) y ds:=All2.imp hy fun d u _ k=>k.mono fun b hb=>⟨hb,hown b hb⟩
 have hdl:ds.length=P.cellsOf E:=by rw[←hyl];exact (All2.length hy).symm
 obtain ⟨v',w',hrun,hB',hg,⟨A',c',hv'⟩,hcase⟩:=Build.appc (P:=P) (ty:=ty) (zr P) (zbv hT) hi hz hp hbp hB (ys:=[y]) (c:=c) (Elems.one hy2 hdl) hc (fun u hu=>by
  obtain ⟨i,hi⟩:=List.getElem?_of_mem hu
  obtain ⟨d,_,hd⟩:=All2.at' hy hi
  exact hd.one) trivial (by simp only [List.length_singleton];omega) (by simp)
 simp only [List.length_singleton] at hrun hv' hcase
 have hsl':∃A n c,v'= .slice A n c:=⟨_,_,_,hv'⟩
 have hbk:∀{x:Value} {b:Nat},(∃A n c,x= .slice A n c)→(bk x=some b↔x.ownBlock=some b):=by
  rintro x b ⟨A,n,c,rfl⟩;rfl
 have hall:∀x∈xs++ [y],x.length=P.cellsOf E:=fun x hx=>by
  rcases List.mem_append.1 hx with h|h
  ·exact hlen x h
  ·rw[List.mem_singleton.1 h];exact hyl
 have hbytes:(xs++ [y]).length*P.bytesOf E≤140737488351232:=by rw[List.length_append];exact hb
 refine ⟨v',w',hrun,?_⟩
 rcases hcase with ⟨g,cap,e1,e2,e3⟩|⟨e1,e2,e3⟩
 ·refine .inl ⟨g,cap,e1,e2,e3,(s.write (id:=q) (o':=.arr (ver+1) E (xs++ [y])) (v':=v') (fun h=>by rw[hid] at h;cases h) (fun f xs h=>by rw[hid] at h;cases h) hg (fun b hb=>⟨_,hid,(hbk ⟨_,_,_,e1⟩).2 hb⟩) (fun b hb=>.inl (by rw[e2] at hb;rw[e1];exact hb)) (fun xs T h=>by rw[hid] at h;cases h) (fun ver2 E2 xs2 h=>by rw[hid] at h;cases h;exact ⟨_,_,_,rfl,by omega,fun h=>by omega⟩)
   fun hS k=>⟨hB'.frame (zr P) (fun _ _=>rfl) (fun _ _=>rfl) (fun _ h=>h) hS,hbytes,hall⟩).1⟩
 ·refine .inr ⟨e3,by rw[hv'];rfl,(s.write (id:=n) (o':=.arr (ver+1) E (xs++ [y])) (v':=v') (row:=none) (fun _=>hn) (fun f xs h=>by rw[hnn] at h;cases h) ⟨e2.os,e2.tape,e2.output,e2.size,fun k hk _=>e2.block k hk⟩ (fun b hb=>by cases hb) (fun b hb=>by
   have hb':=(hbk hsl').1 hb
   rw[e1] at hb';cases hb';exact .inr ⟨Nat.le_refl _,hB'.row_lt e1⟩) (fun xs T h=>by rw[hnn] at h;cases h) (fun ver2 E2 xs2 h=>by rw[hnn] at h;cases h)
   fun hS k=>⟨hB'.frame (zr P) (fun _ _=>rfl) (fun _ _=>rfl) (fun _ h=>h) hS,hbytes,hall⟩).1⟩
theorem RepC.has {S:Nat→Prop}{h:Nat→Option Ow}{x:Cl}{v:Value}(r:RepC P S β h w x v):∀id∈x.ids,(h id).isSome=true:=fun id hid=>by
 cases x with
 |d x=>cases hid
 |un=>cases hid
 |own i off=>obtain ⟨_,_,_,h1,_⟩:=r;rw[List.mem_singleton.1 hid,h1];rfl
 |gs i n=>obtain ⟨_,_,_,h1,_⟩:=r;rw[List.mem_singleton.1 hid,h1];rfl
 |ga i n sz j=>obtain ⟨_,_,_,h1,_⟩:=r;rw[List.mem_singleton.1 hid,h1];rfl
 |io T i off=>obtain ⟨_,_,_,h1,_⟩:=r;rw[List.mem_singleton.1 hid,h1];rfl
 |fn i=>obtain ⟨_,_,h1,_⟩:=r;rw[List.mem_singleton.1 hid,h1];rfl
theorem RepA.has {S:Nat→Prop}{h:Nat→Option Ow}{x:Av}{v:Value}(r:RepA P S β h w x v):∀id∈x.ids,(h id).isSome=true:=fun id hid=>by
 cases x with
 |c x=>exact RepC.has r id hid
 |agg xs=>
  obtain ⟨us,_,ha⟩:=r
  obtain ⟨x,hx,hi⟩:=List.mem_flatMap.1 hid
  obtain ⟨i,hi'⟩:=List.getElem?_of_mem hx
  obtain ⟨u,_,hr⟩:=ha.at hi'
  exact hr.has id hi
 |tup xs=>
  obtain ⟨us,_,ha⟩:=r
  obtain ⟨p,hp,hq⟩:=List.mem_flatMap.1 hid
  obtain ⟨x,hx,hi⟩:=List.mem_flatMap.1 hq
  obtain ⟨i,hi'⟩:=List.getElem?_of_mem hp
  obtain ⟨u,_,hr⟩:=ha.at hi'
  unfold RepP at hr
  split at hr
  ·obtain ⟨us,_,hb⟩:=hr
   obtain ⟨k,hk⟩:=List.getElem?_of_mem hx
   obtain ⟨u2,_,hr2⟩:=hb.at hk
   exact hr2.has id hi
  ·obtain ⟨y,hy,hr2⟩:=hr
   rw[hy] at hx
   rw[List.mem_singleton.1 hx] at hi
   exact hr2.has id hi
 |any=>cases hid
theorem RepC.congr {S S':Nat→Prop}{β':Nat→Value}{h h':Nat→Option Ow}{x:Cl}{v:Value}(hS:∀b,S b→S' b)(k:∀id∈x.ids,h' id=h id∧β' id=β id)(r:RepC P S β h w x v):RepC P S' β' h' w x v:=by
 cases x with
 |d x=>exact RepD.mono r hS
 |own id off=>obtain ⟨k1,k2⟩:=k id (by simp [Cl.ids]);simp only [RepC,k1,k2] at r ⊢;exact r
 |gs id n=>obtain ⟨k1,k2⟩:=k id (by simp [Cl.ids]);simp only [RepC,k1,k2] at r ⊢;exact r
 |ga id n sz i=>obtain ⟨k1,k2⟩:=k id (by simp [Cl.ids]);simp only [RepC,k1,k2] at r ⊢;exact r
 |io T id off=>obtain ⟨k1,k2⟩:=k id (by simp [Cl.ids]);simp only [RepC,k1,k2] at r ⊢;exact r
 |fn id=>obtain ⟨k1,k2⟩:=k id (by simp [Cl.ids]);simp only [RepC,k1,k2] at r ⊢;exact r
 |un=>exact r
theorem RepA.congr {S S':Nat→Prop}{β':Nat→Value}{h h':Nat→Option Ow}{x:Av}{v:Value}(hS:∀b,S b→S' b)(k:∀id∈x.ids,h' id=h id∧β' id=β id)(r:RepA P S β h w x v):RepA P S' β' h' w x v:=by
 cases x with
 |c x=>exact RepC.congr hS k r
 |agg xs=>
  obtain ⟨us,hu,ha⟩:=r
  exact ⟨us,hu,ha.imp fun x u hx r=>r.congr hS fun id hi=>k id (List.mem_flatMap.2 ⟨x,hx,hi⟩)⟩
 |tup xs=>
  obtain ⟨us,hu,ha⟩:=r
  refine ⟨us,hu,ha.imp fun p u hp r=>?_⟩
  have kk:∀x∈p.2,∀id∈x.ids,h' id=h id∧β' id=β id:=fun x hx id hi=>k id (List.mem_flatMap.2 ⟨p,hp,List.mem_flatMap.2 ⟨x,hx,hi⟩⟩)
  unfold RepP at*
  split at r
  ·next hb=>rw[if_pos hb];obtain ⟨us,hu,ha⟩:=r;exact ⟨us,hu,ha.imp fun x u hx r=>r.congr hS (kk x hx)⟩
  ·next hb=>rw[if_neg hb];obtain ⟨y,hy,hr⟩:=r;exact ⟨y,hy,hr.congr hS (kk y (by simp [hy]))⟩
 |any=>trivial
def St.del (σ:St)(q:Nat):St:=⟨σ.tmps,zbt (fun i=>decide (i≠q)) σ.own⟩
theorem zgk {α:Type}(p:Nat→Bool):∀(l:List (Nat×α)) (i:Nat),zd (zbt p l) i=if p i then zd l i else none
 | [],i=>by simp [zbt,zd]
 |(k,x)::l,i=>by
  have ih:=zgk p l i
  simp only [zbt]
  cases hpk:p k with
  |true=>
   simp only [zd]
   by_cases e:k=i
   ·subst e;simp [hpk]
   ·simp only [if_neg e];exact ih
  |false=>
   simp only [zd]
   by_cases e:k=i
   ·subst e;rw[ih];simp [hpk]
   ·simp only [if_neg e];exact ih
theorem zel (σ:St)(q i:Nat):(σ.del q).h i=if i=q then none else σ.h i:=by
 unfold St.del St.h
 rw[zgk]
 by_cases e:i=q<;>simp [e]
theorem Sim.reown (s:Sim P N w0 S0 β σ a w){q d:Nat}{o o':Ow}{v:Value}(hid:σ.h q=some o)(hd:d=q∨σ.h d=none)(hoc:∀b,occ v o' b↔occ (β q) o b)(ht:∀t,q∉(σ.tmp t).ids)(hqo:∀i o,σ.h i=some o→q∉o.ids)
  (hk:∀o0,S0.h0 d=some o0→zav o0 (S0.β0 d) o' v) (hrep:∀(β':Nat→Value) (h':Nat→Option Ow),zky P (Sd w0 S0 β σ.h w) β σ.h w (β q) o→zky P (Sd w0 S0 β σ.h w) β' h' w v o') (hfr:∀(S S':Nat→Prop) (β':Nat→Value) (h':Nat→Option Ow),(∀b,S b→S' b)→zky P S β' h' w v o'→zky P S' β' h' w v o'):
  Sim P N w0 S0 (fun i=>if i=d then v else β i) ((σ.del q).new d o') a w:=by
 have hh:∀i,((σ.del q).new d o').h i=if i=d then some o' else if i=q then none else σ.h i:=fun i=>by rw[zt];simp only [zel]
 have hO:∀i oi b,((σ.del q).new d o').h i=some oi→∃j oj,σ.h j=some oj∧(occ (if i=d then v else β i) oi b↔occ (β j) oj b)∧(i=d∧j=q∨i≠d∧i≠q∧j=i):=fun i oi b hi=>by
  rw[hh] at hi
  by_cases e:i=d
  ·simp only [e,if_true] at hi ⊢
   cases hi
   exact ⟨q,o,hid,hoc b,.inl ⟨trivial,rfl⟩⟩
  ·simp only [e,if_false] at hi ⊢
   by_cases e2:i=q
   ·simp only [e2,if_true] at hi;cases hi
   ·simp only [e2,if_false] at hi
    exact ⟨i,oi,hi,Iff.rfl,.inr ⟨e,e2,rfl⟩⟩
 have hS:∀b,Sd w0 S0 β σ.h w b→Sd w0 S0 (fun i=>if i=d then v else β i) ((σ.del q).new d o').h w b:=fun b hb=>⟨hb.1,hb.2.1,fun i oi hi hc=>by
  obtain ⟨j,oj,h1,h2,_⟩:=hO i oi b hi
  exact hb.2.2 j oj h1 (h2.1 hc)⟩
 have hcg:∀{x:Av} {u:Value},q∉x.ids→RepA P (Sd w0 S0 β σ.h w) β σ.h w x u→RepA P (Sd w0 S0 (fun i=>if i=d then v else β i) ((σ.del q).new d o').h w) (fun i=>if i=d then v else β i) ((σ.del q).new d o').h w x u:=fun {x u} hx r=>r.congr hS fun id hi=>by
  have h1:id≠q:=fun e=>hx (e▸hi)
  have h2:id≠d:=fun e=>by
   rcases hd with h|h
   ·exact h1 (e.trans h)
   ·have:=r.has id hi
    rw[e,h] at this;cases this
  rw[hh];simp [h1,h2]
 have hcc:∀{x:Cl} {u:Value},q∉x.ids→RepC P (Sd w0 S0 β σ.h w) β σ.h w x u→RepC P (Sd w0 S0 (fun i=>if i=d then v else β i) ((σ.del q).new d o').h w) (fun i=>if i=d then v else β i) ((σ.del q).new d o').h w x u:=fun {x u} hx r=>hcg (x:=.c x) hx r
 refine ⟨s.ext,s.hK,fun i o0 hi0=>⟨(s.kept i o0 hi0).1,fun oi hi=>?_⟩,fun i j oi oj b hi hj h1 h2=>?_,fun i oi b hi h1=>?_,fun i oi hi=>?_,fun t=>hcg (ht t) (s.tmp t),s.sz,s.dfr⟩
 ·rw[hh] at hi
  by_cases e:i=d
  ·simp only [e,if_true] at hi ⊢
   cases hi
   exact hk o0 (e▸hi0)
  ·simp only [e,if_false] at hi ⊢
   by_cases e2:i=q
   ·simp only [e2,if_true] at hi;cases hi
   ·simp only [e2,if_false] at hi
    exact (s.kept i o0 hi0).2 oi hi
 ·obtain ⟨i',oi',k1,k2,k3⟩:=hO i oi b hi
  obtain ⟨j',oj',k4,k5,k6⟩:=hO j oj b hj
  have:=s.inj i' j' oi' oj' b k1 k4 (k2.1 h1) (k5.1 h2)
  rcases k3 with ⟨e1,e2⟩|⟨e1,e2,e3⟩<;>rcases k6 with ⟨f1,f2⟩|⟨f1,f2,f3⟩
  ·rw[e1,f1]
  ·exact absurd (by rw[←f3,←this,e2]) f2
  ·exact absurd (by rw[←e3,this,f2]) e2
  ·rw[←e3,←f3,this]
 ·obtain ⟨j,oj,k1,k2,_⟩:=hO i oi b hi
  exact s.new j oj b k1 (k2.1 h1)
 ·have hi2:=hi
  rw[hh] at hi
  by_cases e:i=d
  ·simp only [e,if_true] at hi ⊢
   cases hi
   exact hfr _ _ _ _ hS (hrep _ _ (s.own q o hid))
  ·simp only [e,if_false] at hi ⊢
   by_cases e2:i=q
   ·simp only [e2,if_true] at hi;cases hi
   ·simp only [e2,if_false] at hi
    have hq:=hqo i oi hi
    have:=s.own i oi hi
    cases oi with
    |cells zs U=>obtain ⟨b,us,h1,h2,h3⟩:=this;exact ⟨b,us,h1,h2,h3.imp fun x u hx r=>hcc (fun hm=>hq (List.mem_flatMap.2 ⟨x,hx,hm⟩)) r⟩
    |arr ver2 E2 zs=>
     obtain ⟨h3,h4,h5⟩:=this
     exact ⟨h3.frame (zr P) (fun _ _=>rfl) (fun _ _=>rfl) (fun _ h=>h) hS,h4,h5⟩
    |clo f zs=>obtain ⟨us,h1,h3⟩:=this;exact ⟨us,h1.mono hS,h3.imp fun x u hx r=>hcc (fun hm=>hq (List.mem_flatMap.2 ⟨x,hx,hm⟩)) r⟩
end
def inK (l:List (Nat×Ow)):List (Nat×Ow):=zcu (fun i=>i+zed) (Ow.ren fun i=>i+zed) (zZ l)
def zha:List (Nat×Ow)→List (Nat×Nat)
 | []=>[]
 |(k,_)::l=>(k+zed,k)::zha l
theorem zn5:∀l:List (Nat×Ow),zha l=l.map fun p=>(p.1+zed,p.1)
 | []=>rfl
 |(k,x)::l=>by rw[zha,zn5 l];rfl
def inR (l:List (Nat×Ow)):List (Nat×Nat):=zha (zZ l)
def zhR (xs:List Av)(l:List (Nat×Ow)):Bool:=xs.all (fun x=>x.ids.all (zp l)) && zc2 (zZ l) fun _ x=>x.ids.all (zp l)
theorem zhS (l:List (Nat×Ow)):inK l=(zZ l).map fun p=>(p.1+zed,p.2.ren fun i=>i+zed):=zer _ _ _
theorem zfk (l:List (Nat×Ow)):inR l=(zZ l).map fun p=>(p.1+zed,p.1):=zn5 _
theorem zcz {α:Type}:∀l:List (Nat×α),((zZ l).map (·.1)).Nodup
 | []=>List.nodup_nil
 |(k,x)::l=>by
  simp only [zZ,zdQ,List.map_cons,List.nodup_cons]
  refine ⟨fun h=>?_,(zcz l).sublist (List.Sublist.map _ List.filter_sublist)⟩
  obtain ⟨q,hq,e⟩:=List.mem_map.1 h
  simp only [List.mem_filter,Bool.not_eq_true',beq_eq_false_iff_ne] at hq
  exact hq.2 e.symm
theorem zgl {α:Type}(l:List (Nat×α))(i:Nat):zp (zZ l) i=zp l i:=by
 cases h:zp l i with
 |true=>obtain ⟨x,hx⟩:=zG.1 h;exact zG.2 ⟨x,(zaU l i).trans hx⟩
 |false=>
  cases h2:zp (zZ l) i with
  |false=>rfl
  |true=>obtain ⟨x,hx⟩:=zG.1 h2;rw[zaU] at hx;rw[zG.2 ⟨x,hx⟩] at h;cases h
theorem zhk {α β:Type}(l:List (Nat×α))(g:Nat×α→Nat)(f:Nat×α→β)(i:Nat):zp (l.map fun p=>(g p,f p)) i=true↔∃p∈l,g p=i:=by
 simp [zeV]
theorem zfI {α:Type}{l:List (Nat×α)}{i:Nat}:zp l i=true↔∃p∈l,p.1=i:=by simp [zeV]
theorem Cl.ren_ren {f g:Nat→Nat}{x:Cl}(h:∀id∈x.ids,g (f id)=id):(x.ren f).ren g=x:=by
 cases x<;>simp [Cl.ren,Cl.ids] at h ⊢ <;>exact h
theorem zdf {f g:Nat→Nat}{xs:List Cl}(h:∀id∈xs.flatMap Cl.ids,g (f id)=id):(xs.map (Cl.ren f)).map (Cl.ren g)=xs:=by
 rw[List.map_map]
 conv=>rhs;rw[←List.map_id xs]
 exact List.map_congr_left fun x hx=>Cl.ren_ren fun id hid=>h id (List.mem_flatMap.2 ⟨x,hx,hid⟩)
theorem Av.ren_ren {f g:Nat→Nat}{x:Av}(h:∀id∈x.ids,g (f id)=id):(x.ren f).ren g=x:=by
 cases x with
 |c x=>simp only [Av.ren];rw[Cl.ren_ren h]
 |agg xs=>simp only [Av.ren];rw[zdf h]
 |tup xs=>
  simp only [Av.ren,List.map_map]
  congr 1
  conv=>rhs;rw[←List.map_id xs]
  refine List.map_congr_left fun p hp=>?_
  simp only [Function.comp_apply,id]
  rw[zdf fun id hid=>h id (List.mem_flatMap.2 ⟨p,hp,hid⟩)]
 |any=>rfl
theorem Ow.ren_ren {f g:Nat→Nat}{x:Ow}(h:∀id∈x.ids,g (f id)=id):(x.ren f).ren g=x:=by
 cases x with
 |cells xs T=>simp only [Ow.ren];rw[zdf h]
 |arr k E xs=>rfl
 |clo f xs=>simp only [Ow.ren];rw[zdf h]
theorem Cl.ids_ren (f:Nat→Nat)(x:Cl):(x.ren f).ids=x.ids.map f:=by cases x<;>rfl
theorem zdg (f:Nat→Nat)(xs:List Cl):(xs.map (Cl.ren f)).flatMap Cl.ids=(xs.flatMap Cl.ids).map f:=by
 induction xs with
 |nil=>rfl
 |cons x xs ih=>simp only [List.map_cons,List.flatMap_cons,ih,Cl.ids_ren,List.map_append]
theorem Av.ids_ren (f:Nat→Nat)(x:Av):(x.ren f).ids=x.ids.map f:=by
 cases x with
 |c x=>exact Cl.ids_ren f x
 |agg xs=>exact zdg f xs
 |tup xs=>
  simp only [Av.ren,Av.ids]
  induction xs with
  |nil=>rfl
  |cons p xs ih=>simp only [List.map_cons,List.flatMap_cons,ih,zdg,List.map_append]
 |any=>rfl
theorem Ow.ids_ren (f:Nat→Nat)(x:Ow):(x.ren f).ids=x.ids.map f:=by
 cases x with
 |cells xs T=>exact zdg f xs
 |arr k E xs=>rfl
 |clo g xs=>exact zdg f xs
section
variable {P:Program} {N:Nat} {ops:Array Oper} {σ:St} {o:Oper} {os:List Oper} {K:St→Prop}
theorem zkI (l:List (Nat×Ow))(t:Nat){i:Nat}(h:zp l i=true):ZC (inR l) t (i+zed)=i:=by
 unfold ZC
 have:zd (inR l) (i+zed)=some i:=by
  rw[←zgl] at h
  obtain ⟨p,hp,rfl⟩:=zfI.1 h
  refine zde (l:=inR l) ?_ (p:=(p.1+zed,p.1)) (by rw[zfk];exact List.mem_map.2 ⟨p,hp,rfl⟩)
  have:=zcz l
  rw[zfk,List.map_map]
  exact List.pairwise_map.2 ((List.pairwise_map.1 this).imp fun h e=>h (by simpa using e))
 rw[this]
variable (P N ops os K σ) in
def zqg (d:Option Tmp)(r:Av)(own':List (Nat×Ow)):Prop:=ZI σ (inR σ.own) (d.getD 0) own'=true∧zhI P N ops os ((σ.back (inR σ.own) (d.getD 0) own').put d ((r.ren (ZC (inR σ.own) (d.getD 0))).fix (zd (zT σ (inR σ.own) (d.getD 0) own')))) K
theorem zxR {d:Option Tmp}{f:FuncId}{xs ys args:List Av}{Ts:List TypeId}{own0:List (Nat×Ow)}{fn:Func}{c:Code}{N':Nat}{rs:Array ResultVar}(he:o.dst=d)(hw:Ze P σ o=none)(hc:zy P σ o=some (f,xs,Ts))(hA:ZY P [] σ.h xs Ts=ys)(hok:zhR ys σ.own=true)
  (hY:ys.map (Av.ren fun i=>i+zed)=args) (hO:inK σ.own=own0) (hf:P.funcs[f]? =some fn) (hn:(fn.name== "runtime.NumGoroutine")=false) (hb:fn.body=some c) (hN:fn.ntmps=N') (hrs:fn.results=rs) (hl:args.length≤N')
  (h:(∀x∈args,x.isD=true→okA P x)→∀w0 S0,AWp P N' w0 S0 c (zqf P rs.toList (zqg P N ops σ os K d)) ⟨ZZ 0 args,own0⟩):VK P N ops σ o os K d none:=by
 subst hA;subst hO;subst hY
 simp only [zhR,zev,Bool.and_eq_true,List.all_eq_true] at hok
 obtain ⟨hok1,hok2⟩:=hok
 have keyO:∀i,zp (inK σ.own) (i+zed)=zp σ.own i:=fun i=>by
  rw[←zgl σ.own]
  cases hq:zp (zZ σ.own) i with
  |true=>obtain ⟨p,hp,rfl⟩:=zfI.1 hq;rw[zhS];exact (zhk _ _ _ _).2 ⟨p,hp,rfl⟩
  |false=>
   cases h2:zp (inK σ.own) (i+zed) with
   |false=>rfl
   |true=>
    rw[zhS] at h2
    obtain ⟨p,hp,e⟩:=(zhk _ _ _ _).1 h2
    rw[zfI.2 ⟨p,hp,by omega⟩] at hq;cases hq
 refine zxQ (ρ:=inR σ.own) (own0:=inK σ.own) (R:=zqg P N ops σ os K d) (args:=(ZY P [] σ.h xs Ts).map (Av.ren fun i=>i+zed)) (d.getD 0) he hw hc ?_ ?_ ?_ (zfH hf hn hb hN hrs hl h) fun r own' h=>h
 ·rw[List.map_map]
  conv=>lhs;rw[←List.map_id (ZY P [] σ.h xs Ts)]
  refine List.map_congr_left fun x hx=>?_
  simp only [Function.comp_apply,id]
  exact (Av.ren_ren fun i hi=>zkI σ.own _ (hok1 x hx i hi)).symm
 ·simp only [zce,zev,Bool.and_eq_true,List.all_eq_true,decide_eq_true_eq]
  have nodupB_of:∀{l:List Nat},l.Nodup→zdZ l=true:=by
   intro l
   induction l with
   |nil=>intro _;rfl
   |cons x l ih=>intro h;rw[List.nodup_cons] at h;simp only [zdZ,Bool.and_eq_true,Bool.not_eq_true'];exact ⟨by simpa using h.1,ih h.2⟩
  refine ⟨⟨⟨⟨⟨nodupB_of ?_,nodupB_of ?_⟩,?_⟩,?_⟩,?_⟩,?_⟩
  ·rw[zfk,List.map_map]
   exact List.pairwise_map.2 ((List.pairwise_map.1 (zcz σ.own)).imp fun h e=>h (by simpa using e))
  ·rw[zfk,List.map_map];exact zcz σ.own
  ·intro p hp;rw[zfk] at hp;obtain ⟨q,_,rfl⟩:=List.mem_map.1 hp;exact Nat.le_add_left _ _
  ·intro p hp
   rw[zhS] at hp
   obtain ⟨q,hq,rfl⟩:=List.mem_map.1 hp
   refine ⟨by rw[zfk];exact (zhk _ _ _ _).2 ⟨q,hq,rfl⟩,fun i hi=>?_⟩
   rw[Ow.ids_ren] at hi
   obtain ⟨j,hj,rfl⟩:=List.mem_map.1 hi
   rw[keyO];exact hok2 q hq j hj
  ·intro x hx
   obtain ⟨y,hy,rfl⟩:=List.mem_map.1 hx
   intro i hi
   rw[Av.ids_ren] at hi
   obtain ⟨j,hj,rfl⟩:=List.mem_map.1 hi
   rw[keyO];exact hok1 y hy j hj
  ·intro p hp;rw[zfk] at hp;obtain ⟨q,hq,rfl⟩:=List.mem_map.1 hp;rw[zhS];exact (zhk _ _ _ _).2 ⟨q,hq,rfl⟩
 ·have key:∀l:List (Nat×Ow),(∀p∈l,p∈zZ σ.own)→zb2 σ.h (ZC (inR σ.own) (d.getD 0)) (l.map fun p=>(p.1+zed,p.2.ren fun i=>i+zed)):=by
   intro l
   induction l with
   |nil=>intro _;trivial
   |cons p l ih=>
    intro hl
    have hp:=hl p (List.mem_cons_self ..)
    have hk:zp σ.own p.1=true:=by rw[←zgl];exact zfI.2 ⟨p,hp,rfl⟩
    refine ⟨?_,ih fun q hq=>hl q (List.mem_cons_of_mem _ hq)⟩
    show σ.h (ZC (inR σ.own) (d.getD 0) (p.1+zed))=some _
    rw[zkI σ.own _ hk,Ow.ren_ren fun i hi=>zkI σ.own _ (hok2 p hp i hi)]
    exact (zaU σ.own p.1).symm.trans (zde (zcz σ.own) hp)
  rw[zhS];exact key _ fun p hp=>hp
theorem ziY {w:World}{T:TypeId}{y u:Value}{f:FuncId}{name:String}{fn:Func}(hm:∀n,(method (n+1) T y name).run P w= .ok (f,u) w)(hf:P.funcs[f]? =some fn)(hn:(fn.name== "runtime.NumGoroutine")=false)(hb:fn.body.isSome=true)(us:Array Value):
  (invoke (.fn (.method name) #[]) (#[.iface T y]++us)).run P w= .ok (.enter f (#[u]++us)) w:=by
 obtain ⟨n,hn1⟩:=zlJ
 have hm':=hm (P.types.size+n)
 have hdep:P.types.size+Made.depth=P.types.size+n+1:=by omega
 have hext:(#[Value.iface T y]++us).extract 1 (#[Value.iface T y]++us).size=us:=by rw[←Array.toList_inj];simp [List.take_of_length_le]
 have hget:(#[Value.iface T y]++us)[0]? =some (.iface T y):=by simp [Array.getElem?_append]
 simp only [invoke,Sem.run_bind,Sem.run_pure,Result.andThen_ok,hget,hext,callMethod]
 simp only [program,Sem.run_bind,Sem.run,Result.andThen_ok,hdep,hm']
 rw[zcP hf hn hb]
theorem zsS {T E:TypeId}{f:FuncId}{name:String}{fn:Func}(hm:P.meth T name=some (f,true))(hp:P.ptrT T=some (some E))(hf:P.funcs[f]? =some fn)(hn:(fn.name== "runtime.NumGoroutine")=false)(hb:fn.body=some .skip)(hr:fn.results= #[])(y:Value)(us:Array Value):
  zoK P { target:=.fn (.method name) #[],args:= #[.iface T y]++us }:=
 ⟨_,_,f, #[y]++us,rfl,fun w=>⟨ziY (fun n=>zfg hm hp n y w) hf hn (by rw[hb];rfl) us,
  (callsD_of_wp (R:=fun e w'=>∃v,e= .returned v∧w'=w) hf hb (wp_skip ⟨rfl,.tuple #[],by simp [results,hr],_,rfl,rfl⟩)).mono fun e u' w' ⟨h1,v,h2,h3⟩=>⟨v,h2,h1,h3⟩⟩⟩
end
end Go.Smd
end
