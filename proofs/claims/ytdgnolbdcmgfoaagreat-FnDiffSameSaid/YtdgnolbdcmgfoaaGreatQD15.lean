/- Part 15. -/
import Derived.Test.YtdgnolbdcmgfoaaGreatQD12
import Derived.Test.YtdgnolbdcmgfoaaGreatQD13
import Derived.Test.YtdgnolbdcmgfoaaGreatQD11
import Derived.Test.YtdgnolbdcmgfoaaGreatQD10
import Derived.Test.YtdgnolbdcmgfoaaGreatQD08
import Derived.Test.YtdgnolbdcmgfoaaGreatQD14
set_option linter.unusedVariables false
set_option linter.unusedSimpArgs false
set_option maxRecDepth 100000
set_option maxHeartbeats 8000000
section
namespace Go.Smd
open Go.RowKit
section
variable {P:Program} {N:Nat} {w0:World} {S0:Env} {ops:Array Oper}
def Eff (P:Program)(N:Nat)(full base:List (Nat×Av))(o:Oper)(own own':List (Nat×Ow)):Prop:=
 ∀σ:St,σ.h=zd own→(∀x∈o.op.operands,σ.ev x=(St.mk (full++base) own).ev x)→(∀t,σ.tmp t=ze full base t∨σ.tmp t=(zd base t).getD .any)→
  ∀K:St→Prop,(∀σ':St,σ'.h=zd own'→(∀t,σ'.tmp t=if o.dst=some t then ze full base t else σ.tmp t)→K σ')→zhH P N σ o K
def zvo (P:Program)(N:Nat)(ops:Array Oper)(full base:List (Nat×Av))(is cs:List Nat):List Nat→List (Nat×Ow)→List (Nat×List (Nat×Ow))→Prop
 |ps,own,[]=>zgt P ops full base own (fun i=>cs.contains i||ps.any fun p=>zax ops 64 p i) is
 |ps,own,(c,own')::es=>zgt P ops full base own (fun i=>cs.contains i||zax ops 64 i c||ps.any fun p=>zax ops 64 p i) is∧(∃o,nth ops.toList c=some o∧Eff P N full base o own own')∧zvo P N ops full base is cs (c::ps) own' es
def zib (own:List (Nat×Ow)):List (Nat×List (Nat×Ow))→List (Nat×Ow)
 | []=>own
 |(_,own')::es=>zib own' es
def zfR (ops:Array Oper):List Nat→Bool
 | []=>true
 |c::cs=>cs.all (fun d=>zax ops 64 d c && d !=c) && zfR ops cs
def zwB (N:Nat)(ops:Array Oper)(cs is ks:List Nat):Bool:=
 (List.range ops.size).all (fun i=>match ops[i]? with
  |some o=>o.guard.isNone && Zd N o && (match o.dst with|some d=>ks.contains d|none=>cs.contains i) &&
   (o.looksAt ops).all (fun t=>(List.range ops.size).all fun j=>(match ops[j]? with|some oj=> !(oj.dst==some t)||o.after.any (fun e=>Region.binds .any e && e.on==j)|none=>true))
  |none=>false) &&
 ks.all (fun t=>(List.range ops.size).any fun j=>match ops[j]? with|some oj=>oj.dst==some t|none=>false) &&
 zi4 ops [] is && (List.range ops.size).all is.contains && cs.all (fun c=>decide (c<ops.size)) && zfR ops cs
structure DQ (N:Nat) (ops:Array Oper) (cs:List Nat) (full:List (Nat×Av)):Prop where
 gd:∀(i:Nat) (o:Oper),ops[i]? =some o→o.guard=none
 dst:∀(i:Nat) (o:Oper),ops[i]? =some o→Zd N o=true∧(i∉cs→∃d,o.dst=some d)
 dep:∀(i:Nat) (o:Oper),ops[i]? =some o→∀t∈o.looksAt ops,∀(j:Nat) (oj:Oper),ops[j]? =some oj→oj.dst=some t→∃e∈o.after,Region.binds .any e=true∧e.on=j
 key:∀t,(zd full t).isSome=true→∃(j:Nat) (oj:Oper),ops[j]? =some oj∧oj.dst=some t
 lt:∀c∈cs,c<ops.size
structure AtQ (ops:Array Oper) (full base:List (Nat×Av)) (ps:List Nat) (own:List (Nat×Ow)) (rest:List Nat) (listed:Array Bool) (σ:St):Prop where
 o:σ.h=zd own
 pl:∀p∈ps,listed.getD p false=true
 rl:∀c∈rest,listed.getD c false=false
 t1:∀(j:Nat) (oj:Oper) (t:Tmp),ops[j]? =some oj→oj.dst=some t→listed.getD j false=true→σ.tmp t=ze full base t
 t0:∀t:Tmp,(∀(j:Nat) (oj:Oper),ops[j]? =some oj→oj.dst=some t→listed.getD j false=false)→σ.tmp t=(zd base t).getD .any
theorem AtQ.sees {cs:List Nat}{full base:List (Nat×Av)}{ps:List Nat}{own:List (Nat×Ow)}{rest:List Nat}{listed:Array Bool}{σ:St}(A:AtQ ops full base ps own rest listed σ)(D:DQ N ops cs full){i:Nat}{o:Oper}(ho:ops[i]? =some o)(hr:∀e∈o.after,Region.binds .any e=true→listed.getD e.on false=true)(own':List (Nat×Ow)):
  ∀x∈o.op.operands,σ.ev x=(St.mk (full++base) own').ev x:=by
 refine zO (ops:=ops) fun t ht=>?_
 rw[zdB]
 by_cases hj:∃(j:Nat) (oj:Oper),ops[j]? =some oj∧oj.dst=some t
 ·obtain ⟨j,oj,h1,h2⟩:=hj
  obtain ⟨e,he,hb,rfl⟩:=D.dep i o ho t ht j oj h1 h2
  exact A.t1 _ oj t h1 h2 (hr e he hb)
 ·rw[A.t0 t fun j oj h1 h2=>absurd ⟨j,oj,h1,h2⟩ hj]
  unfold ze
  cases hf:zd full t with
  |none=>rfl
  |some x=>obtain ⟨j,oj,h1,h2⟩:=D.key t (by rw[hf];rfl);exact absurd ⟨j,oj,h1,h2⟩ hj
theorem zvp {cs:List Nat}{full base:List (Nat×Av)}{K:St→Prop}(D:DQ N ops cs full){is:List Nat}(ht:zi4 ops [] is=true)(hall:∀i,i<ops.size→i∈is){ownF:List (Nat×Ow)}
  (hK:∀σ:St,σ.h=zd ownF→(∀t,σ.tmp t=ze full base t)→K σ):∀(n:Nat) (ps:List Nat) (own:List (Nat×Ow)) (es:List (Nat×List (Nat×Ow))) (listed:Array Bool) (σ:St),(∀c,c∈cs↔c∈ps∨c∈es.map (·.1))→zfR ops (es.map (·.1))=true→zvo P N ops full base is cs ps own es→zib own es=ownF→
   listed.size=ops.size→unl ops.size listed≤n→Closed ops listed→AtQ ops full base ps own (es.map (·.1)) listed σ→zpj P N ops K n listed σ:=by
 have fin:∀(ps:List Nat) (own:List (Nat×Ow)) (es:List (Nat×List (Nat×Ow))) (listed:Array Bool) (σ:St),(∀c,c∈cs↔c∈ps∨c∈es.map (·.1))→zib own es=ownF→listed.size=ops.size→Region.ready .any ops listed= []→AtQ ops full base ps own (es.map (·.1)) listed σ→K σ:=fun ps own es listed σ hcs hlo hs hr A=>by
  have hl:∀i,i<ops.size→listed.getD i false=true:=fun i hi=>by
   rw[zc5 (by rw[hs];exact hi) false true]
   cases hq:listed.getD i true with
   |true=>rfl
   |false=>
    obtain ⟨j,hj⟩:=zd4 ht (fun _ h=>by cases h) hs ⟨i,hall i hi,hq⟩
    rw[hr] at hj;cases hj
  cases es with
  |cons e es=>
   have h1:=A.rl e.1 (by simp)
   rw[hl e.1 (D.lt e.1 ((hcs e.1).2 (.inr (by simp))))] at h1;cases h1
  |nil=>
   simp only [zib] at hlo
   subst hlo
   refine hK σ A.o fun t=>?_
   by_cases hj:∃(j:Nat) (oj:Oper),ops[j]? =some oj∧oj.dst=some t
   ·obtain ⟨j,oj,h1,h2⟩:=hj
    exact A.t1 j oj t h1 h2 (hl j (Array.getElem?_eq_some_iff.1 h1).1)
   ·rw[A.t0 t fun j oj h1 h2=>absurd ⟨j,oj,h1,h2⟩ hj]
    unfold ze
    cases hf:zd full t with
    |none=>rfl
    |some x=>obtain ⟨j,oj,h1,h2⟩:=D.key t (by rw[hf];rfl);exact absurd ⟨j,oj,h1,h2⟩ hj
 intro n
 induction n with
 |zero=>
  intro ps own es listed σ hcs hio hst hlo hs hu hcl A
  have hr:Region.ready .any ops listed= []:=by
   cases hq:Region.ready .any ops listed with
   |nil=>rfl
   |cons i l=>
    obtain ⟨h1,o,ho,_⟩:=mem_ready.1 (show i∈Region.ready .any ops listed by rw[hq];exact List.mem_cons_self ..)
    have:=zdi hs (Array.getElem?_eq_some_iff.1 ho).1 h1
    omega
  exact ⟨hr,fin ps own es listed σ hcs hlo hs hr A⟩
 |succ n ih=>
  intro ps own es listed σ hcs hio hst hlo hs hu hcl A
  refine ⟨fun hr=>fin ps own es listed σ hcs hlo hs hr A,fun i hi=>?_⟩
  obtain ⟨hl,o,ho,hr⟩:=mem_ready.1 hi
  have hin:=(Array.getElem?_eq_some_iff.1 ho).1
  have hli:listed.getD i false=false:=by rw[zc5 (by rw[hs];exact hin) false true];exact hl
  have hg:=D.gd i o ho
  have hset:∀j,(listed.setIfInBounds i true).getD j false=if i=j then true else listed.getD j false:=fun j=>by
   by_cases e:i=j
   ·subst e;simp [hs,hin]
   ·rw[if_neg e];exact getD_set_ne false e
  have hip:i∉ps:=fun h=>by rw[A.pl i h] at hli;cases hli
  have tt:∀(σ':St) (ps':List Nat) (own':List (Nat×Ow)) (rest':List Nat),σ'.h=zd own'→(∀p∈ps',p=i∨p∈ps)→(∀c∈rest',c≠i∧c∈es.map (·.1))→(∀t,σ'.tmp t=if o.dst=some t then ze full base t else σ.tmp t)→AtQ ops full base ps' own' rest' (listed.setIfInBounds i true) σ':=fun σ' ps' own' rest' h1 h2 h3 h4=>by
   refine ⟨h1,fun p hp=>?_,fun c hc=>?_,fun j oj t hj hd hlj=>?_,fun t hno=>?_⟩
   ·rw[hset]
    split
    ·rfl
    ·next e=>exact A.pl p ((h2 p hp).resolve_left (Ne.symm e))
   ·rw[hset,if_neg (Ne.symm (h3 c hc).1)];exact A.rl c (h3 c hc).2
   ·rw[h4]
    by_cases e:o.dst=some t
    ·rw[if_pos e]
    ·rw[if_neg e]
     rw[hset] at hlj
     by_cases ej:i=j
     ·subst ej;rw[ho] at hj;cases hj;exact absurd hd e
     ·rw[if_neg ej] at hlj;exact A.t1 j oj t hj hd hlj
   ·rw[h4]
    have hne:o.dst≠some t:=fun e=>by
     have:=hno i o ho e
     rw[hset,if_pos rfl] at this;cases this
    rw[if_neg hne]
    refine A.t0 t fun j oj hj hd=>?_
    have:=hno j oj hj hd
    rw[hset] at this
    by_cases ej:i=j
    ·rw[if_pos ej] at this;cases this
    ·rw[if_neg ej] at this;exact this
  refine ⟨o,ho,?_⟩
  unfold opX
  have hgo:zW ops σ o=some true:=by unfold zW;rw[hg]
  rw[hgo]
  refine ⟨fun _=>?_,fun h=>by cases h⟩
  by_cases hic:i∈cs
  ·
   have hie:i∈es.map (·.1):=((hcs i).1 hic).resolve_left hip
   cases es with
   |nil=>cases hie
   |cons e es=>
    obtain ⟨c,own'⟩:=e
    have hci:i=c:=by
     rcases List.mem_cons.1 hie with h|h
     ·exact h
     ·exfalso
      simp only [List.map_cons,zfR,Bool.and_eq_true,List.all_eq_true] at hio
      have h1:=(hio.1 i h).1
      have:=zac hcl 64 i h1 fun o' ho'=>by rw[ho] at ho';cases ho';exact hr
      rw[A.rl c (by simp)] at this;cases this
    subst hci
    obtain ⟨_,⟨o',ho',heff⟩,hst'⟩:=hst
    have:=ZQ ho'
    rw[ho] at this;cases this
    simp only [List.map_cons,zfR,Bool.and_eq_true,List.all_eq_true] at hio
    refine heff σ A.o (A.sees D ho hr own) (fun t=>?_) _ fun σ' h1 h2=>ih (i::ps) own' es _ σ' (fun c=>?_) hio.2 hst' hlo (by simp [hs]) (by have:=zdi hs hin hl;omega) (hcl.set hi) (tt σ' _ _ _ h1 (fun p hp=>List.mem_cons.1 hp) (fun c hc=>⟨by have:=(hio.1 c hc).2;simpa using this,by simp only [List.map_cons];exact List.mem_cons_of_mem _ hc⟩) h2)
    ·by_cases hj:∃(j:Nat) (oj:Oper),ops[j]? =some oj∧oj.dst=some t∧listed.getD j false=true
     ·obtain ⟨j,oj,h1,h2,h3⟩:=hj
      exact .inl (A.t1 j oj t h1 h2 h3)
     ·refine .inr (A.t0 t fun j oj h1 h2=>?_)
      cases hq:listed.getD j false with
      |false=>rfl
      |true=>exact absurd ⟨j,oj,h1,h2,hq⟩ hj
    ·rw[hcs c];simp only [List.map_cons,List.mem_cons];constructor
     ·rintro (h|h|h)
      ·exact .inl (.inr h)
      ·exact .inl (.inl h)
      ·exact .inr h
     ·rintro ((h|h)|h)
      ·exact .inr (.inl h)
      ·exact .inl h
      ·exact .inr (.inr h)
  ·obtain ⟨hdk,hdd⟩:=D.dst i o ho
   obtain ⟨d,hd⟩:=hdd hic
   have hcf:cs.contains i=false:=by simpa using hic
   have hpw:(ps.any fun p=>zax ops 64 p i)=false:=by
    cases hq:ps.any fun p=>zax ops 64 p i with
    |false=>rfl
    |true=>
     obtain ⟨p,hp,hw⟩:=List.any_eq_true.1 hq
     have:=zac hcl 64 p hw fun o' ho'=>hcl p o' ho' (A.pl p hp)
     rw[hli] at this;cases this
   have hv:zJ P ⟨full++base,own⟩ o=some (ze full base d):=by
    cases es with
    |nil=>exact zcA hst i (hall i hin) (by rw[hcf,hpw];rfl) o d ho hd
    |cons e es=>
     obtain ⟨c,own'⟩:=e
     have hw:zax ops 64 i c=false:=by
      cases hq:zax ops 64 i c with
      |false=>rfl
      |true=>
       have:=zac hcl 64 i hq fun o' ho'=>by rw[ho] at ho';cases ho';exact hr
       rw[A.rl c (by simp)] at this;cases this
     exact zcA hst.1 i (hall i hin) (by rw[hcf,hpw,hw];rfl) o d ho hd
   have hv':zJ P σ o=some (ze full base d):=by
    rw[←hv]
    exact zaC (A.sees D ho hr own) A.o
   refine ⟨hdk,?_⟩
   rw[hv']
   refine ih ps own es _ _ hcs hio hst hlo (by simp [hs]) (by have:=zdi hs hin hl;omega) (hcl.set hi) (tt _ ps own _ (by rw[ZG];exact A.o) (fun p hp=>.inr hp) (fun c hc=>⟨fun e=>?_,hc⟩) fun t=>?_)
   ·subst e;exact hic ((hcs c).2 (.inr hc))
   ·rw[Zl]
    by_cases e:o.dst=some t
    ·rw[if_pos e,if_pos e]
     rw[hd] at e;cases e;rfl
    ·rw[if_neg e,if_neg e]
theorem zfo {id:Nat}{l:List Oper}{Q:Exit→St→Prop}{base:List (Nat×Av)}{own0:List (Nat×Ow)}(hm:P.follows .mixedOrders=true)(is:List Nat)(full:List (Nat×Av))(es:List (Nat×List (Nat×Ow)))
  (hok:zwB N l.toArray (es.map (·.1)) is (full.map (·.1))=true) (hst:zvo P N l.toArray full base is (es.map (·.1)) [] own0 es)
  (h:Q .normal ⟨full++base,zib own0 es⟩):AWp P N w0 S0 (.region id l.toArray true) Q ⟨base,own0⟩:=fun β a w s=>by
 simp only [zwB,Bool.and_eq_true] at hok
 obtain ⟨⟨⟨⟨⟨k1,k2⟩,k3⟩,k4⟩,k5⟩,k6⟩:=hok
 have kk:∀i o,l.toArray[i]? =some o→o.guard=none∧Zd N o=true∧(i∉es.map (·.1)→∃d,o.dst=some d)∧∀t∈o.looksAt l.toArray,∀(j:Nat) (oj:Oper),l.toArray[j]? =some oj→oj.dst=some t→∃e∈o.after,Region.binds .any e=true∧e.on=j:=fun i o ho=>by
  have:=List.all_eq_true.1 k1 i (List.mem_range.2 (Array.getElem?_eq_some_iff.1 ho).1)
  rw[ho] at this
  simp only [Bool.and_eq_true] at this
  obtain ⟨⟨⟨h1,h2⟩,h3⟩,h4⟩:=this
  refine ⟨Option.isNone_iff_eq_none.1 h1,h2,fun hi=>?_,fun t ht j oj hj hd=>?_⟩
  ·cases hd:o.dst with
   |none=>
    rw[hd] at h3
    exact absurd (by simpa using h3) hi
   |some d=>exact ⟨d,rfl⟩
  ·have h5:=List.all_eq_true.1 (List.all_eq_true.1 h4 t ht) j (List.mem_range.2 (Array.getElem?_eq_some_iff.1 hj).1)
   rw[hj] at h5
   simp only [hd,beq_self_eq_true,Bool.not_true,Bool.false_or] at h5
   obtain ⟨e,he,hb⟩:=Array.any_eq_true'.1 h5
   simp only [Bool.and_eq_true,beq_iff_eq] at hb
   exact ⟨e,he,hb.1,hb.2⟩
 have D:DQ N l.toArray (es.map (·.1)) full:=⟨fun i o ho=>(kk i o ho).1,fun i o ho=>⟨(kk i o ho).2.1,(kk i o ho).2.2.1⟩,fun i o ho=>(kk i o ho).2.2.2,fun t ht=>by
  obtain ⟨x,hx⟩:=Option.isSome_iff_exists.1 ht
  have:=List.all_eq_true.1 k2 t (List.mem_map.2 ⟨_,Zn hx,rfl⟩)
  obtain ⟨j,hj,h6⟩:=List.any_eq_true.1 this
  cases ho:l.toArray[j]? with
  |none=>rw[ho] at h6;cases h6
  |some oj=>rw[ho] at h6;exact ⟨j,oj,ho,by simpa using h6⟩,fun c hc=>by have:=List.all_eq_true.1 k5 c hc;simpa using this⟩
 have hcl:Closed l.toArray (Array.replicate l.toArray.size false):=fun j o ho hl=>by
  rw[Array.getD_eq_getD_getElem?,Array.getElem?_replicate] at hl
  split at hl<;>cases hl
 have hlf:∀i,(Array.replicate l.toArray.size false).getD i false=false:=fun i=>by
  rw[Array.getD_eq_getD_getElem?,Array.getElem?_replicate];split<;>rfl
 have h1:=zvp (P:=P) (base:=base) (K:=fun σ=>∃τ,Eqv τ σ∧Q .normal τ) D k3 (fun i hi=>by simpa using List.all_eq_true.1 k4 i (List.mem_range.2 hi))
  (fun σ h2 h3=>⟨⟨full++base,zib own0 es⟩,⟨fun t=>by rw[zdB,h3],h2.symm⟩,h⟩) l.toArray.size [] own0 es (Array.replicate l.toArray.size false) ⟨base,own0⟩ (fun c=>by simp) k6 hst rfl (by simp) (by
   have:=List.length_filter_le (fun i=> !(Array.replicate l.toArray.size false).getD i true) (List.range l.toArray.size)
   rw[List.length_range] at this;exact this) hcl ⟨rfl,fun p h=>(by cases h),fun c _=>hlf c,fun j oj t _ _ h=>(by rw[hlf] at h;cases h),fun t _=>rfl⟩
 refine wp_region_any hm (zez (fun β σ a w ⟨τ,e,hq⟩ s=>⟨β,τ,hq,s.eqv e.symm⟩) _ _ β _ a _ h1 (s.grow (w':=w.drew) ?_).1)
 exact (Ext.refl w).drew
theorem zaK {full base:List (Nat×Av)}{o:Oper}{own:List (Nat×Ow)}{id:Nat}{x:Ow}{r:Av}(hdk:Zd N o=true)(hW:isW o.op=true){own':List (Nat×Ow)}(hq:Zy P ⟨full++base,own⟩ o=some (id,x,r))(hoo:(id,x)::own=own')(hv:∀d,o.dst=some d→ze full base d=r):Eff P N full base o own own':=fun σ e0 e1 e2 K hK=>by
 subst hoo
 refine ⟨hdk,?_⟩
 rw[zfn hW]
 have hq':Zy P σ o=some (id,x,r):=by rw[zcg e1 (τ:=⟨full++base,own⟩) e0];exact hq
 simp only [zdz hq']
 refine hK _ ?_ fun t=>?_
 ·rw[ZG,zt,e0];funext i
  simp only [zd]
  by_cases e:id=i
  ·subst e;simp
  ·simp [e,Ne.symm e]
 ·rw[Zl]
  by_cases e:o.dst=some t
  ·rw[if_pos e,if_pos e];exact (hv t e).symm
  ·rw[if_neg e,if_neg e];rfl
theorem zrh {full base:List (Nat×Av)}{own own':List (Nat×Ow)}{o:Oper}{f:FuncId}{xs args:List Av}{Ts:List TypeId}{ownA ownB:List (Nat×Ow)}{ρ:List (Nat×Nat)}{r0:Av}{d:Tmp}(t:Nat)(hp:Zu o.op=true)(hd:o.dst=some d)(hdk:Zd N o=true)
  (hc:zy P ⟨full++base,own⟩ o=some (f,xs,Ts)) (hx:ZY P [] (zd own) xs Ts=args.map (Av.ren (ZC ρ t))) (ho:zce ρ args ownA=true) (hh:zb2 (zd own) (ZC ρ t) ownA) (hR:AProc P f args ownA fun r own'=>r=r0∧own'=ownB)
  (hb:ZI ⟨[],own⟩ ρ t ownB=true) (h1:zcM (Ow.fix (zd (zT ⟨[],own⟩ ρ t ownB))) (zT ⟨[],own⟩ ρ t ownB)=own') (hv:(r0.ren (ZC ρ t)).fix (zd (zT ⟨[],own⟩ ρ t ownB))=ze full base d)
  (hfix:∀p∈full++base,p.2.fix (zd (zT ⟨[],own⟩ ρ t ownB))=p.2):Eff P N full base o own own':=fun σ e0 e1 e2 K hK=>by
 have key:=zl3 (P:=P) (N:=N) (σ:=⟨σ.tmps,own⟩) (full:=full) (base:=base) (own0:=own) (own1:=own') (o:=o) (K:=K) t hp hd hdk hc hx ho hh hR hb h1 hv hfix rfl (fun x hx=>by rw[←e1 x hx];cases x<;>rfl) (fun t'=>e2 t') fun σ' h2 h3=>hK σ' h2 h3
 obtain ⟨k1,k2⟩:=key
 refine ⟨k1,?_⟩
 rw[zd5 hp,zbw (zbT hp)] at k2 ⊢
 have hsh:σ.h=zd own:=e0
 have hkk:∀i,zp σ.own i=zp own i:=fun i=>by
  have:zd σ.own i=zd own i:=congrFun e0 i
  cases hq:zp own i with
  |true=>obtain ⟨x,hx⟩:=zG.1 hq;exact zG.2 ⟨x,by rw[this,hx]⟩
  |false=>
   cases hq2:zp σ.own i with
   |false=>rfl
   |true=>obtain ⟨x,hx⟩:=zG.1 hq2;rw[this] at hx;rw[zG.2 ⟨x,hx⟩] at hq;cases hq
 have hbo:∀own',ZI σ ρ t own'=ZI ⟨[],own⟩ ρ t own':=fun own'=>by
  unfold ZI
  simp only [hkk]
 have hfil:∀(p:Nat→Bool) (l:List (Nat×Ow)) (i:Nat),zd (zbt p l) i=if p i then zd l i else none:=fun p l i=>by
  induction l with
  |nil=>simp [zbt,zd]
  |cons q l ih=>
   obtain ⟨k,x⟩:=q
   simp only [zbt]
   cases hpk:p k with
   |true=>
    simp only [zd]
    by_cases e:k=i
    ·subst e;simp [hpk]
    ·simp only [if_neg e];exact ih
   |false=>
    simp only [zd]
    by_cases e:k=i
    ·subst e;rw[ih];simp [hpk]
    ·simp only [if_neg e];exact ih
 have hbh:∀own',zd (zT σ ρ t own')=zd (zT ⟨[],own⟩ ρ t own'):=fun own'=>by
  funext i
  unfold zT
  rw[zaw,zaw,hfil,hfil]
  have:zd σ.own i=zd own i:=congrFun e0 i
  simp only [this]
 have hfx:∀t',(σ.tmp t').fix (zd (zT ⟨[],own⟩ ρ t ownB))=σ.tmp t':=fun t'=>by
  have hl:∀{l:List (Nat×Av)},(∀p∈l,p∈full++base)→∀x,zd l t'=some x→x.fix (zd (zT ⟨[],own⟩ ρ t ownB))=x:=fun {l} hl x hx=>hfix _ (hl _ (Zn hx))
  rcases e2 t' with h|h<;>rw[h]
  ·unfold ze
   cases hq:zd full t' with
   |some x=>exact hl (fun p hp=>List.mem_append_left _ hp) x hq
   |none=>
    cases hq2:zd base t' with
    |some x=>exact hl (fun p hp=>List.mem_append_right _ hp) x hq2
    |none=>rfl
  ·cases hq2:zd base t' with
   |some x=>exact hl (fun p hp=>List.mem_append_right _ hp) x hq2
   |none=>rfl
 refine .inr (.proc (t:=t) (ρ:=ρ) (own0:=ownA) (args:=args) (by rw[zb3 e1 hsh];exact hc) (by rw[hsh];exact hx) ho (by rw[hsh];exact hh) hR ?_)
 rintro r own'' ⟨rfl,rfl⟩
 refine ⟨by rw[hbo];exact hb,hK _ ?_ fun t'=>?_⟩
 ·rw[ZG]
  show zd (zcM (Ow.fix (zd (zT σ ρ t own''))) (zT σ ρ t own''))=zd own'
  rw[←h1]
  funext i
  simp only [zcm,zbJ,hbh]
 ·rw[Zl,hbh,hv,hd]
  by_cases e:some d=some t'
  ·rw[if_pos e,if_pos e];cases e;rfl
  ·rw[if_neg e,if_neg e]
   have:(σ.back ρ t own'').tmp t'=(σ.tmp t').fix (zd (zT σ ρ t own'')):=by
    unfold St.back St.tmp
    simp only [zcm,zbJ,zaU]
    cases zd σ.tmps t'<;>rfl
   rw[this,hbh];exact hfx t'
theorem zri {full base:List (Nat×Av)}{own:List (Nat×Ow)}{o:Oper}{f:FuncId}{args:List Av}{F:List Nat}{r:Av}{d:Tmp}(hp:Zu o.op=true)(hd:o.dst=some d)(hdk:Zd N o=true)
  (hc:Zh P ⟨full++base,own⟩ o=some (f,args,F)) (ha:args.all Av.isD=true) (hR:ACalls P f args fun x=>x=r) (hpl:r.plain=true) {own':List (Nat×Ow)} (hoo:own=own') (hv:r=ze full base d):Eff P N full base o own own':=fun σ e0 e1 e2 K hK=>by
 subst hoo
 refine ⟨hdk,?_⟩
 rw[zd5 hp,zbw (zbT hp)]
 refine .inr (.lend (by rw[zd2 e1 (τ:=⟨full++base,own⟩) e0];exact hc) ha hR (fun x hx=>by subst hx;exact hpl) ?_)
 rintro x rfl _
 refine hK _ (by rw[ZG];exact e0) fun t=>?_
 rw[Zl,hd]
 by_cases e:some d=some t
 ·rw[if_pos e,if_pos e];cases e;exact hv
 ·rw[if_neg e,if_neg e]
attribute [simp] zib
end
end Go.Smd
end
section
namespace Go.Smd
open Go.RowKit Go.Proofs Go.Proofs.Tryz
@[simp] theorem zyC:prog.meth 271 "AsBool" =some (319,false):=by kernel_rfl
@[simp] theorem zyD:prog.meth 271 "AsFloat" =some (320,false):=by kernel_rfl
@[simp] theorem zyE:prog.meth 271 "AsInt" =some (321,false):=by kernel_rfl
@[simp] theorem zyF:prog.meth 271 "AsList" =some (322,false):=by kernel_rfl
@[simp] theorem zyG:prog.meth 271 "AsListUsing" =some (323,false):=by kernel_rfl
@[simp] theorem zyH:prog.meth 271 "AsMap" =some (324,false):=by kernel_rfl
@[simp] theorem zyI:prog.meth 271 "AsMapUsing" =some (325,false):=by kernel_rfl
@[simp] theorem zyJ:prog.meth 271 "AsString" =some (326,false):=by kernel_rfl
@[simp] theorem zyK:prog.meth 271 "IsBool" =some (327,false):=by kernel_rfl
@[simp] theorem zyL:prog.meth 271 "IsFloat" =some (328,false):=by kernel_rfl
@[simp] theorem zw4:prog.meth 271 "IsInt" =some (329,false):=by kernel_rfl
@[simp] theorem zw5:prog.meth 271 "IsList" =some (330,false):=by kernel_rfl
@[simp] theorem zw6:prog.meth 271 "IsMap" =some (331,false):=by kernel_rfl
@[simp] theorem zw7:prog.meth 271 "IsNull" =some (332,false):=by kernel_rfl
@[simp] theorem zw8:prog.meth 271 "IsString" =some (333,false):=by kernel_rfl
@[simp] theorem zw9:prog.meth 271 "Unstructured" =some (334,false):=by kernel_rfl
@[simp] theorem zxa:prog.meth 443 "At" =some (342,false):=by kernel_rfl
@[simp] theorem zxb:prog.meth 469 "At" =some (342,false):=by kernel_rfl
@[simp] theorem zxc:prog.meth 443 "AtUsing" =some (343,false):=by kernel_rfl
@[simp] theorem zxd:prog.meth 469 "AtUsing" =some (343,false):=by kernel_rfl
@[simp] theorem zxe:prog.meth 443 "Equals" =some (344,false):=by kernel_rfl
@[simp] theorem zxf:prog.meth 469 "Equals" =some (344,false):=by kernel_rfl
@[simp] theorem zxg:prog.meth 443 "EqualsUsing" =some (345,false):=by kernel_rfl
@[simp] theorem zxh:prog.meth 469 "EqualsUsing" =some (345,false):=by kernel_rfl
@[simp] theorem zxi:prog.meth 443 "Length" =some (346,false):=by kernel_rfl
@[simp] theorem zxj:prog.meth 469 "Length" =some (346,false):=by kernel_rfl
@[simp] theorem zxk:prog.meth 443 "Range" =some (347,false):=by kernel_rfl
@[simp] theorem zxl:prog.meth 469 "Range" =some (347,false):=by kernel_rfl
@[simp] theorem zxm:prog.meth 443 "RangeUsing" =some (348,false):=by kernel_rfl
@[simp] theorem zxn:prog.meth 469 "RangeUsing" =some (348,false):=by kernel_rfl
@[simp] theorem zxo:prog.meth 444 "Delete" =some (350,false):=by kernel_rfl
@[simp] theorem zxp:prog.meth 444 "Empty" =some (351,false):=by kernel_rfl
@[simp] theorem zxq:prog.meth 444 "Equals" =some (352,false):=by kernel_rfl
@[simp] theorem zxr:prog.meth 444 "EqualsUsing" =some (353,false):=by kernel_rfl
@[simp] theorem zxs:prog.meth 444 "Get" =some (354,false):=by kernel_rfl
@[simp] theorem zxt:prog.meth 444 "GetUsing" =some (355,false):=by kernel_rfl
@[simp] theorem zxu:prog.meth 444 "Has" =some (356,false):=by kernel_rfl
@[simp] theorem zxv:prog.meth 444 "Iterate" =some (357,false):=by kernel_rfl
@[simp] theorem zxw:prog.meth 444 "IterateUsing" =some (358,false):=by kernel_rfl
@[simp] theorem zxx:prog.meth 444 "Length" =some (359,false):=by kernel_rfl
@[simp] theorem zxy:prog.meth 444 "Set" =some (360,false):=by kernel_rfl
@[simp] theorem zxz:prog.meth 444 "Zip" =some (361,false):=by kernel_rfl
@[simp] theorem zxA:prog.meth 444 "ZipUsing" =some (362,false):=by kernel_rfl
@[simp] theorem zxB:prog.meth 470 "Next" =some (374,true):=by kernel_rfl
@[simp] theorem zxC:prog.meth 467 "Next" =some (372,true):=by kernel_rfl
@[simp] theorem zxD:prog.meth 470 "Item" =some (373,true):=by kernel_rfl
@[simp] theorem zxE:prog.meth 467 "Item" =some (371,true):=by kernel_rfl
@[simp] theorem zxF:prog.meth 272 "Free" =some (335,true):=by kernel_rfl
@[simp] theorem zxG:prog.meth 272 "pub-coparcener/pub/structuredmerge/value.allocValueUnstructured" =some (181,true):=by kernel_rfl
@[simp] theorem zxH:prog.meth 272 "pub-coparcener/pub/structuredmerge/value.allocListUnstructuredRange" =some (336,true):=by kernel_rfl
@[simp] theorem zwC:zmN prog=true:=by kernel_rfl
@[simp] theorem zwb:prog.treeMap 276=true:=by kernel_rfl
@[simp] theorem zwc:prog.treeMap 444=true:=by kernel_rfl
abbrev zeB:D:=.ifc 272 (.pt [])
abbrev Z4:Av:=.c (.d zeB)
abbrev dV (t:Tree):D:=.ifc 271 (.pt [.tr t])
abbrev dM (m:List (ByteArray×Tree)):D:=.ifc 444 (.mp m)
abbrev dL (l:List Tree):D:=.ifc 443 (.sl 20 (l.map fun t=>[.tr t]))
theorem zpn (y:Value)(us:Array Value):zoK prog { target:=.fn (.method "Free") #[],args:= #[.iface 272 y]++us }:=
 zsS (E:=274) (f:=335) (by kernel_rfl) (by kernel_rfl) func335 (by kernel_rfl) rfl results335 y us
theorem zfS {xs:List D}:zmV prog "Free" (.c (.d (.ifc 272 (.pt xs)))):=fun S β h w v us hv=>by
 cases (show RepD prog w S (.ifc 272 (.pt xs)) v from hv) with
 |ifc hv=>exact zpn _ us.toArray
def ZJ:Tree→Bool
 | .bool _=>true
 |_=>false
theorem zrj (t:Tree):ACalls prog 327 [.agg [.d (.tr t)]] (fun r=>r=aV (.bool (ZJ t))):=by
 cases t
 all_goals
  refine zf [] func327 (by kernel_rfl) rfl ntmps327 results327 (Nat.le_of_ble_eq_true (by kernel_rfl)) ?_;intro hok w0 S0
  (repeat' (first|(with_reducible first|refine zj (fun _=>?_) (fun _=>?_)|refine zi (fun _=>?_) (fun _=>?_)|refine zk zb (by kernel_rfl) ?_|exact za rfl)|(simp -dsimp)));(all_goals try with_reducible refine za ?_)
  all_goals rfl
def Zo:Tree→Bool
 | .float _=>true
 |_=>false
theorem zpo (t:Tree):ACalls prog 328 [.agg [.d (.tr t)]] (fun r=>r=aV (.bool (Zo t))):=by
 cases t
 all_goals
  refine zf [] func328 (by kernel_rfl) rfl ntmps328 results328 (Nat.le_of_ble_eq_true (by kernel_rfl)) ?_;intro hok w0 S0
  (repeat' (first|(with_reducible first|refine zj (fun _=>?_) (fun _=>?_)|refine zi (fun _=>?_) (fun _=>?_)|refine zk zb (by kernel_rfl) ?_|exact za rfl)|(simp -dsimp)));(all_goals try with_reducible refine za ?_)
  all_goals rfl
def zar:Tree→Bool
 | .int _=>true
 |_=>false
theorem ztC (t:Tree):ACalls prog 329 [.agg [.d (.tr t)]] (fun r=>r=aV (.bool (zar t))):=by
 cases t
 all_goals
  refine zf [] func329 (by kernel_rfl) rfl ntmps329 results329 (Nat.le_of_ble_eq_true (by kernel_rfl)) ?_;intro hok w0 S0
  (repeat' (first|(with_reducible first|refine zj (fun _=>?_) (fun _=>?_)|refine zi (fun _=>?_) (fun _=>?_)|refine zk zb (by kernel_rfl) ?_|exact za rfl)|(simp -dsimp)));(all_goals try with_reducible refine za ?_)
  all_goals rfl
def ZK:Tree→Bool
 | .list _=>true
 |_=>false
theorem zrk (t:Tree):ACalls prog 330 [.agg [.d (.tr t)]] (fun r=>r=aV (.bool (ZK t))):=by
 cases t
 all_goals
  refine zf [] func330 (by kernel_rfl) rfl ntmps330 results330 (Nat.le_of_ble_eq_true (by kernel_rfl)) ?_;intro hok w0 S0
  (repeat' (first|(with_reducible first|refine zj (fun _=>?_) (fun _=>?_)|refine zi (fun _=>?_) (fun _=>?_)|refine zk zb (by kernel_rfl) ?_|exact za rfl)|(simp -dsimp)));(all_goals try with_reducible refine za ?_)
  all_goals rfl
def zas:Tree→Bool
 | .map _=>true
 |_=>false
theorem ztD (t:Tree):ACalls prog 331 [.agg [.d (.tr t)]] (fun r=>r=aV (.bool (zas t))):=by
 cases t
 all_goals
  refine zf [] func331 (by kernel_rfl) rfl ntmps331 results331 (Nat.le_of_ble_eq_true (by kernel_rfl)) ?_;intro hok w0 S0
  (repeat' (first|(with_reducible first|refine zj (fun _=>?_) (fun _=>?_)|refine zi (fun _=>?_) (fun _=>?_)|refine zk zb (by kernel_rfl) ?_|exact za rfl)|(simp -dsimp)));(all_goals try with_reducible refine za ?_)
  all_goals rfl
def z6:Tree→Bool
 | .str _=>true
 |_=>false
theorem znk (t:Tree):ACalls prog 333 [.agg [.d (.tr t)]] (fun r=>r=aV (.bool (z6 t))):=by
 cases t
 all_goals
  refine zf [] func333 (by kernel_rfl) rfl ntmps333 results333 (Nat.le_of_ble_eq_true (by kernel_rfl)) ?_;intro hok w0 S0
  (repeat' (first|(with_reducible first|refine zj (fun _=>?_) (fun _=>?_)|refine zi (fun _=>?_) (fun _=>?_)|refine zk zb (by kernel_rfl) ?_|exact za rfl)|(simp -dsimp)));(all_goals try with_reducible refine za ?_)
  all_goals rfl
theorem zrl (t:Tree):ACalls prog 332 [.agg [.d (.tr t)]] (fun r=>r=aV (.bool (Zg t))):=by
 refine zf [] func332 (by kernel_rfl) rfl ntmps332 results332 (Nat.le_of_ble_eq_true (by kernel_rfl)) ?_;intro hok w0 S0
 (repeat' (first|(with_reducible first|refine zj (fun _=>?_) (fun _=>?_)|refine zi (fun _=>?_) (fun _=>?_)|refine zk zb (by kernel_rfl) ?_|exact za rfl)|(simp -dsimp)));(all_goals try with_reducible refine za ?_)
 all_goals rfl
theorem zic (t:Tree):ACalls prog 334 [.agg [.d (.tr t)]] (fun r=>r= .c (.d (.tr t))):=by
 refine zf [] func334 (by kernel_rfl) rfl ntmps334 results334 (Nat.le_of_ble_eq_true (by kernel_rfl)) ?_;intro hok w0 S0
 (repeat' (first|(with_reducible first|refine zj (fun _=>?_) (fun _=>?_)|refine zi (fun _=>?_) (fun _=>?_)|refine zk zb (by kernel_rfl) ?_|exact za rfl)|(simp -dsimp)));(all_goals try with_reducible refine za ?_)
 all_goals rfl
theorem zrm (b:Bool):ACalls prog 319 [.agg [.d (.tr (.bool b))]] (fun r=>r=aV (.bool b)):=by
 refine zf [] func319 (by kernel_rfl) rfl ntmps319 results319 (Nat.le_of_ble_eq_true (by kernel_rfl)) ?_;intro hok w0 S0
 (repeat' (first|(with_reducible first|refine zj (fun _=>?_) (fun _=>?_)|refine zi (fun _=>?_) (fun _=>?_)|refine zk zb (by kernel_rfl) ?_|exact za rfl)|(simp -dsimp)));(all_goals try with_reducible refine za ?_)
 all_goals rfl
theorem zpp (b:Nat):ACalls prog 320 [.agg [.d (.tr (.float b))]] (fun r=>r=aV (.float .f64 b)):=by
 refine zf [] func320 (by kernel_rfl) rfl ntmps320 results320 (Nat.le_of_ble_eq_true (by kernel_rfl)) ?_;intro hok w0 S0
 (repeat' (first|(with_reducible first|refine zj (fun _=>?_) (fun _=>?_)|refine zi (fun _=>?_) (fun _=>?_)|refine zk zb (by kernel_rfl) ?_|exact za rfl)|(simp -dsimp)));(all_goals try with_reducible refine za ?_)
 all_goals rfl
theorem ztE (b:Int):ACalls prog 321 [.agg [.d (.tr (.int b))]] (fun r=>r=aV (.int .i64 b)):=by
 refine zf [] func321 (by kernel_rfl) rfl ntmps321 results321 (Nat.le_of_ble_eq_true (by kernel_rfl)) ?_;intro hok w0 S0
 (repeat' (first|(with_reducible first|refine zj (fun _=>?_) (fun _=>?_)|refine zi (fun _=>?_) (fun _=>?_)|refine zk zb (by kernel_rfl) ?_|exact za rfl)|(simp -dsimp)));(all_goals try with_reducible refine za ?_)
 all_goals rfl
theorem znl (b:ByteArray):ACalls prog 326 [.agg [.d (.tr (.str b))]] (fun r=>r=aV (.string b)):=by
 refine zf [] func326 (by kernel_rfl) rfl ntmps326 results326 (Nat.le_of_ble_eq_true (by kernel_rfl)) ?_;intro hok w0 S0
 (repeat' (first|(with_reducible first|refine zj (fun _=>?_) (fun _=>?_)|refine zi (fun _=>?_) (fun _=>?_)|refine zk zb (by kernel_rfl) ?_|exact za rfl)|(simp -dsimp)));(all_goals try with_reducible refine za ?_)
 all_goals rfl
theorem zi6 (l:List Tree)(x:D):ACalls prog 323 [.agg [.d (.tr (.list l))],.c (.d x)] (fun r=>r= .c (.d (dL l))):=by
 refine zf [] func323 (by kernel_rfl) rfl ntmps323 results323 (Nat.le_of_ble_eq_true (by kernel_rfl)) ?_;intro hok w0 S0
 (repeat' (first|(with_reducible first|refine zj (fun _=>?_) (fun _=>?_)|refine zi (fun _=>?_) (fun _=>?_)|refine zk zb (by kernel_rfl) ?_|exact za rfl)|(simp -dsimp)));(all_goals try with_reducible refine za ?_)
 all_goals rfl
theorem zk0 (m:List (ByteArray×Tree))(x:D):ACalls prog 325 [.agg [.d (.tr (.map m))],.c (.d x)] (fun r=>r= .c (.d (dM m))):=by
 refine zf [] func325 (by kernel_rfl) rfl ntmps325 results325 (Nat.le_of_ble_eq_true (by kernel_rfl)) ?_;intro hok w0 S0
 (repeat' (first|(with_reducible first|refine zj (fun _=>?_) (fun _=>?_)|refine zi (fun _=>?_) (fun _=>?_)|refine zk zb (by kernel_rfl) ?_|exact za rfl)|(simp -dsimp)));(all_goals try with_reducible refine za ?_)
 all_goals rfl
end Go.Smd
end
