/- Part 25 of the proof: No Bs In. -/
import Derived.Test.YtdgnolbdcmgfoaaGreatQO24
import Derived.Test.YtdgnolbdcmgfoaaGreatQO01
import Derived.Lib.AppendZerosOnto
import Derived.Laws.CopyRow
set_option linter.unusedVariables false
set_option linter.unusedSimpArgs false
set_option maxRecDepth 100000
set_option maxHeartbeats 8000000
section
namespace Go.Smd
open Go.RowKit
section
variable {P:Program} {N:Nat} {w0:World} {S0:Env} {ops:Array Oper}
def zbQ (k:Nat)(x:Ow):List (Nat×Ow)→List (Nat×Ow)
 | []=>[(k,x)]
 |(j,y)::l=>if k<j then (k,x)::(j,y)::l else if k=j then (k,x)::l else (j,y)::zbQ k x l
def ZK:List (Nat×Ow)→List (Nat×Ow)
 | []=>[]
 |(k,x)::l=>zbQ k x (ZK l)
theorem zkl (k:Nat)(x:Ow):∀(l:List (Nat×Ow)) (i:Nat),ze (zbQ k x l) i=if k=i then some x else ze l i
 | [],i=>by simp [zbQ,ze]
 |(j,y)::l,i=>by
  unfold zbQ
  by_cases h1:k<j
  ·rw[if_pos h1];simp only [ze]
  ·rw[if_neg h1]
   by_cases h2:k=j
   ·subst h2
    rw[if_pos rfl]
    simp only [ze]
    by_cases e:k=i
    ·simp [e]
    ·simp [e]
   ·rw[if_neg h2]
    simp only [ze,zkl k x l i]
    by_cases e:j=i
    ·subst e;simp [h2]
    ·simp [e]
theorem zhn:∀(l:List (Nat×Ow)),ze (ZK l)=ze l
 | []=>rfl
 |(k,x)::l=>by
  funext i
  rw[ZK,zkl,zhn l]
  simp only [ze]
structure NodS where
 full:List (Nat×Av)
 base:List (Nat×Av)
 own:List (Nat×Ow)
def zpM (P:Program)(N:Nat)(n n':NodS)(o:Oper):Prop:=
 ∀σ:St,σ.h=ze n.own→(∀x∈o.op.operands,σ.ev x=(St.mk (n.full++n.base) n.own).ev x)→(∀t,σ.tmp t=zi n.full n.base t∨σ.tmp t=(ze n.base t).getD .any)→
  ∀K:St→Prop,(∀σ':St,σ'.h=ze n'.own→(∀t,o.dst=some t→σ'.tmp t=zi n'.full n'.base t)→
   (∀t,o.dst≠some t→(σ.tmp t=zi n.full n.base t→σ'.tmp t=zi n'.full n'.base t)∧(σ.tmp t=(ze n.base t).getD .any→σ'.tmp t=(ze n'.base t).getD .any))→K σ')→zhW P N σ o K
theorem Zv {full base:List (Nat×Av)}{own own1 own':List (Nat×Ow)}{o:Oper}(h:Eff P N full base o own own1)(hc:ZK own1=own'):zpM P N ⟨full,base,own⟩ ⟨full,base,own'⟩ o:=fun σ e0 e1 e2 K hK=>
 h σ e0 e1 e2 K fun σ' h1 h2=>hK σ' (by rw[h1,←hc,zhn]) (fun t ht=>by rw[h2,if_pos ht]) fun t hn=>⟨fun k=>by rw[h2,if_neg hn];exact k,fun k=>by rw[h2,if_neg hn];exact k⟩
theorem zA {n:NodS}{o:Oper}(h:Eff P N n.full n.base o n.own n.own):zpM P N n n o:=fun σ e0 e1 e2 K hK=>
 h σ e0 e1 e2 K fun σ' h1 h2=>hK σ' h1 (fun t ht=>by rw[h2,if_pos ht]) fun t hn=>⟨fun k=>by rw[h2,if_neg hn];exact k,fun k=>by rw[h2,if_neg hn];exact k⟩
def zrQ:List (List Nat)→Nat→Option (List Nat)
 | [],_=>none
 |x::_,0=>some x
 |_::l,i+1=>zrQ l i
def zb1 (r:List (List Nat))(i j:Nat):Bool:=match zrQ r i with|some l=>l.contains j|none=>false
def rOk (ops:Array Oper)(r:List (List Nat)):Bool:=
 decide (r.length≤ops.size) && (List.range ops.size).all fun i=>match ops[i]? with
  |some o=>(match zrQ r i with
   |some l=>l.all fun j=>o.after.any fun e=>Region.binds .any e && decide (e.on<i) && (e.on==j||zb1 r e.on j)
   |none=>true)
  |none=>false
theorem zox:∀{l:List (List Nat)} {i:Nat} {x:List Nat},zrQ l i=some x→i<l.length
 | [],i,_,h=>by cases h
 |y::l,0,_,_=>by simp
 |y::l,i+1,_,h=>by
  have:=zox (l:=l) (i:=i) h
  simp only [List.length_cons];omega
theorem zfr {r:List (List Nat)}(hrk:rOk ops r=true){listed:Array Bool}(hc:Closed ops listed):∀(i j:Nat),zb1 r i j=true→(∀o,ops[i]? =some o→∀e∈o.after,Region.binds .any e=true→listed.getD e.on false=true)→listed.getD j false=true:=by
 intro i
 induction i using Nat.strongRecOn with
 |_ i ih=>
  intro j hj ha
  unfold rOk at hrk
  rw[Bool.and_eq_true,decide_eq_true_eq] at hrk
  unfold zb1 at hj
  cases hn:zrQ r i with
  |none=>rw[hn] at hj;cases hj
  |some l=>
   rw[hn] at hj
   have hlt:=zox hn
   have:=List.all_eq_true.1 hrk.2 i (List.mem_range.2 (by omega))
   cases ho:ops[i]? with
   |none=>rw[ho] at this;cases this
   |some o=>
    rw[ho] at this
    simp only [hn] at this
    have h2:=List.all_eq_true.1 this j (by simpa using hj)
    obtain ⟨e,he,h3⟩:=Array.any_eq_true'.1 h2
    simp only [Bool.and_eq_true,Bool.or_eq_true,decide_eq_true_eq,beq_iff_eq] at h3
    obtain ⟨⟨hb,hlt2⟩,h4⟩:=h3
    have hl:=ha o ho e he hb
    rcases h4 with h4|h4
    ·rw[←h4];exact hl
    ·exact ih e.on hlt2 j h4 fun o' ho'=>hc e.on o' ho' hl
def zpN:List Nat→List Nat→Bool
 | [],[]=>true
 |a::l,b::m=>match Nat.beq a b with|true=>zpN l m|false=>false
 |_,_=>false
theorem zoy:∀{l m:List Nat},zpN l m=true→l=m
 | [],[],_=>rfl
 | [],_::_,h=>by cases h
 |_::_,[],h=>by cases h
 |a::l,b::m,h=>by
  unfold zpN at h
  cases e:Nat.beq a b with
  |false=>rw[e] at h;cases h
  |true=>
   rw[e] at h
   rw[Nat.eq_of_beq_eq_true e,zoy h]
def zdo:List (List Nat×NodS)→List Nat→Option NodS
 | [],_=>none
 |(k,n)::l,ps=>match zpN k ps with|true=>some n|false=>zdo l ps
def zoz (cs ps:List Nat)(c:Nat):List Nat:=cs.filter fun x=>x==c||ps.contains x
def zoA (P:Program)(N:Nat)(ops:Array Oper)(r:List (List Nat))(cs ps:List Nat)(n:NodS):List Nat→Prop
 | []=>True
 |i::is=>((cs.contains i||cs.any fun d=>if ps.contains d then zb1 r d i else zb1 r i d)=true∨∃o,nth ops.toList i=some o∧zpM P N n n o)∧zoA P N ops r cs ps n is
def zll (P:Program)(N:Nat)(ops:Array Oper)(r:List (List Nat))(cs:List Nat)(G:List (List Nat×NodS))(ps:List Nat)(n:NodS):List Nat→Prop
 | []=>True
 |c::l=>((ps.contains c||cs.any fun d=> !ps.contains d && zb1 r c d)=true∨∃o n',nth ops.toList c=some o∧zdo G (zoz cs ps c)=some n'∧zpM P N n n' o)∧zll P N ops r cs G ps n l
def zlm (P:Program)(N:Nat)(ops:Array Oper)(r:List (List Nat))(cs is:List Nat)(G:List (List Nat×NodS)):List (List Nat×NodS)→Prop
 | []=>True
 |(ps,n)::l=>(zoA P N ops r cs ps n is∧zll P N ops r cs G ps n cs)∧zlm P N ops r cs is G l
theorem zmw {r:List (List Nat)}{cs ps:List Nat}{n:NodS}:∀{is:List Nat},zoA P N ops r cs ps n is→∀i∈is,(cs.contains i||cs.any fun d=>if ps.contains d then zb1 r d i else zb1 r i d)=false→∀o,ops[i]? =some o→zpM P N n n o
 | [],_,i,hi,_,_,_=>by cases hi
 |j::is,⟨h,t⟩,i,hi,hs,o,ho=>by
  rcases List.mem_cons.1 hi with rfl|hi
  ·rcases h with h|⟨o',h1,h3⟩
   ·rw[hs] at h;cases h
   ·have:=ZX h1
    rw[ho] at this;cases this;exact h3
  ·exact zmw t i hi hs o ho
theorem zkm {r:List (List Nat)}{cs ps:List Nat}{G:List (List Nat×NodS)}{n:NodS}:∀{l:List Nat},zll P N ops r cs G ps n l→∀c∈l,(ps.contains c||cs.any fun d=> !ps.contains d && zb1 r c d)=false→∀o,ops[c]? =some o→∃n',zdo G (zoz cs ps c)=some n'∧zpM P N n n' o
 | [],_,i,hi,_,_,_=>by cases hi
 |j::is,⟨h,t⟩,i,hi,hs,o,ho=>by
  rcases List.mem_cons.1 hi with rfl|hi
  ·rcases h with h|⟨o',n',h1,h2,h3⟩
   ·rw[hs] at h;cases h
   ·have:=ZX h1
    rw[ho] at this;cases this;exact ⟨n',h2,h3⟩
  ·exact zkm t i hi hs o ho
theorem zkn {r:List (List Nat)}{cs is:List Nat}{G0:List (List Nat×NodS)}:∀{G:List (List Nat×NodS)},zlm P N ops r cs is G0 G→∀ps n,zdo G ps=some n→zoA P N ops r cs ps n is∧zll P N ops r cs G0 ps n cs
 | [],_,_,_,h=>by cases h
 |(k,m)::G,⟨h,t⟩,ps,n,hl=>by
  unfold zdo at hl
  cases e:zpN k ps with
  |true=>rw[e] at hl;cases hl;have:=zoy e;subst this;exact h
  |false=>rw[e] at hl;exact zkn t ps n hl
structure AtN (ops:Array Oper) (n:NodS) (listed:Array Bool) (σ:St):Prop where
 o:σ.h=ze n.own
 t1:∀(j:Nat) (oj:Oper) (t:Tmp),ops[j]? =some oj→oj.dst=some t→listed.getD j false=true→σ.tmp t=zi n.full n.base t
 t0:∀t:Tmp,(∀(j:Nat) (oj:Oper),ops[j]? =some oj→oj.dst=some t→listed.getD j false=false)→σ.tmp t=(ze n.base t).getD .any
def keyOf (cs:List Nat)(listed:Array Bool):List Nat:=cs.filter fun c=>listed.getD c false
structure DN (N:Nat) (ops:Array Oper) (cs:List Nat) (G:List (List Nat×NodS)):Prop where
 gd:∀(i:Nat) (o:Oper),ops[i]? =some o→o.guard=none
 dep:∀(i:Nat) (o:Oper),ops[i]? =some o→∀t∈o.looksAt ops,∀(j:Nat) (oj:Oper),ops[j]? =some oj→oj.dst=some t→∃e∈o.after,Region.binds .any e=true∧e.on=j
 key:∀ps n,zdo G ps=some n→∀t,(ze n.full t).isSome=true→∃(j:Nat) (oj:Oper),ops[j]? =some oj∧oj.dst=some t
 lt:∀c∈cs,c<ops.size
theorem AtN.sees {cs:List Nat}{G:List (List Nat×NodS)}{n:NodS}{listed:Array Bool}{σ:St}(A:AtN ops n listed σ)(D:DN N ops cs G){ps:List Nat}(hn:zdo G ps=some n){i:Nat}{o:Oper}(ho:ops[i]? =some o)(hr:∀e∈o.after,Region.binds .any e=true→listed.getD e.on false=true):
  ∀x∈o.op.operands,σ.ev x=(St.mk (n.full++n.base) n.own).ev x:=by
 refine zV (ops:=ops) fun t ht=>?_
 rw[zdG]
 by_cases hj:∃(j:Nat) (oj:Oper),ops[j]? =some oj∧oj.dst=some t
 ·obtain ⟨j,oj,h1,h2⟩:=hj
  obtain ⟨e,he,hb,rfl⟩:=D.dep i o ho t ht j oj h1 h2
  exact A.t1 _ oj t h1 h2 (hr e he hb)
 ·rw[A.t0 t fun j oj h1 h2=>absurd ⟨j,oj,h1,h2⟩ hj]
  unfold zi
  cases hf:ze n.full t with
  |none=>rfl
  |some x=>obtain ⟨j,oj,h1,h2⟩:=D.key ps n hn t (by rw[hf];rfl);exact absurd ⟨j,oj,h1,h2⟩ hj
theorem zvs {r:List (List Nat)}(hrk:rOk ops r=true){cs:List Nat}{G:List (List Nat×NodS)}{K:St→Prop}(D:DN N ops cs G){is:List Nat}(ht:zjl ops [] is=true)(hall:∀i,i<ops.size→i∈is)(hg:zlm P N ops r cs is G G){nF:NodS}(hF:zdo G cs=some nF)
  (hK:∀σ:St,σ.h=ze nF.own→(∀t,σ.tmp t=zi nF.full nF.base t)→K σ):∀(m:Nat) (n:NodS) (listed:Array Bool) (σ:St),zdo G (keyOf cs listed)=some n→
   listed.size=ops.size→unl ops.size listed≤m→Closed ops listed→AtN ops n listed σ→zpw P N ops K m listed σ:=by
 have fin:∀(n:NodS) (listed:Array Bool) (σ:St),zdo G (keyOf cs listed)=some n→listed.size=ops.size→Region.ready .any ops listed= []→AtN ops n listed σ→K σ:=fun n listed σ hn hs hr A=>by
  have hl:∀i,i<ops.size→listed.getD i false=true:=fun i hi=>by
   rw[zdb (by rw[hs];exact hi) false true]
   cases hq:listed.getD i true with
   |true=>rfl
   |false=>
    obtain ⟨j,hj⟩:=zd6 ht (fun _ h=>by cases h) hs ⟨i,hall i hi,hq⟩
    rw[hr] at hj;cases hj
  have hk:keyOf cs listed=cs:=List.filter_eq_self.2 fun c hc=>hl c (D.lt c hc)
  rw[hk,hF] at hn
  cases hn
  refine hK σ A.o fun t=>?_
  by_cases hj:∃(j:Nat) (oj:Oper),ops[j]? =some oj∧oj.dst=some t
  ·obtain ⟨j,oj,h1,h2⟩:=hj
   exact A.t1 j oj t h1 h2 (hl j (Array.getElem?_eq_some_iff.1 h1).1)
  ·rw[A.t0 t fun j oj h1 h2=>absurd ⟨j,oj,h1,h2⟩ hj]
   unfold zi
   cases hf:ze nF.full t with
   |none=>rfl
   |some x=>obtain ⟨j,oj,h1,h2⟩:=D.key _ nF hF t (by rw[hf];rfl);exact absurd ⟨j,oj,h1,h2⟩ hj
 intro m
 induction m with
 |zero=>
  intro n listed σ hn hs hu hcl A
  have hr:Region.ready .any ops listed= []:=by
   cases hq:Region.ready .any ops listed with
   |nil=>rfl
   |cons i l=>
    obtain ⟨h1,o,ho,_⟩:=mem_ready.1 (show i∈Region.ready .any ops listed by rw[hq];exact List.mem_cons_self ..)
    have:=zdl hs (Array.getElem?_eq_some_iff.1 ho).1 h1
    omega
  exact ⟨hr,fin n listed σ hn hs hr A⟩
 |succ m ih=>
  intro n listed σ hn hs hu hcl A
  refine ⟨fun hr=>fin n listed σ hn hs hr A,fun i hi=>?_⟩
  obtain ⟨hl,o,ho,hr⟩:=mem_ready.1 hi
  have hin:=(Array.getElem?_eq_some_iff.1 ho).1
  have hli:listed.getD i false=false:=by rw[zdb (by rw[hs];exact hin) false true];exact hl
  have hgd:=D.gd i o ho
  have hset:∀j,(listed.setIfInBounds i true).getD j false=if i=j then true else listed.getD j false:=fun j=>by
   by_cases e:i=j
   ·subst e;simp [hs,hin]
   ·rw[if_neg e];exact getD_set_ne false e
  have hkc:∀c∈cs,(keyOf cs listed).contains c=listed.getD c false:=fun c hc=>by
   rw[Bool.eq_iff_iff,List.contains_iff_mem,keyOf,List.mem_filter]
   exact ⟨fun h=>h.2,fun h=>⟨hc,h⟩⟩
  have w1:∀d,zb1 r i d=true→listed.getD d false=true:=fun d hw=>zfr hrk hcl i d hw fun o' ho'=>by rw[ho] at ho';cases ho';exact hr
  have w2:∀d,listed.getD d false=true→zb1 r d i=false:=fun d hd=>by
   cases hq:zb1 r d i with
   |false=>rfl
   |true=>
    have:=zfr hrk hcl d i hq fun o' ho'=>hcl d o' ho' hd
    rw[hli] at this;cases this
  have tt:∀(n':NodS) (σ':St),σ'.h=ze n'.own→(∀t,o.dst=some t→σ'.tmp t=zi n'.full n'.base t)→(∀t,o.dst≠some t→(σ.tmp t=zi n.full n.base t→σ'.tmp t=zi n'.full n'.base t)∧(σ.tmp t=(ze n.base t).getD .any→σ'.tmp t=(ze n'.base t).getD .any))→AtN ops n' (listed.setIfInBounds i true) σ':=fun n' σ' h1 h2 h3=>by
   refine ⟨h1,fun j oj t hj hd hlj=>?_,fun t hno=>?_⟩
   ·by_cases e:o.dst=some t
    ·exact h2 t e
    ·rw[hset] at hlj
     by_cases ej:i=j
     ·subst ej;rw[ho] at hj;cases hj;exact absurd hd e
     ·rw[if_neg ej] at hlj;exact (h3 t e).1 (A.t1 j oj t hj hd hlj)
   ·have hne:o.dst≠some t:=fun e=>by
     have:=hno i o ho e
     rw[hset,if_pos rfl] at this;cases this
    refine (h3 t hne).2 (A.t0 t fun j oj hj hd=>?_)
    have:=hno j oj hj hd
    rw[hset] at this
    by_cases ej:i=j
    ·rw[if_pos ej] at this;cases this
    ·rw[if_neg ej] at this;exact this
  have e2:∀t,σ.tmp t=zi n.full n.base t∨σ.tmp t=(ze n.base t).getD .any:=fun t=>by
   by_cases hj:∃(j:Nat) (oj:Oper),ops[j]? =some oj∧oj.dst=some t∧listed.getD j false=true
   ·obtain ⟨j,oj,h1,h2,h3⟩:=hj
    exact .inl (A.t1 j oj t h1 h2 h3)
   ·refine .inr (A.t0 t fun j oj h1 h2=>?_)
    cases hq:listed.getD j false with
    |false=>rfl
    |true=>exact absurd ⟨j,oj,h1,h2,hq⟩ hj
  refine ⟨o,ho,?_⟩
  unfold opX
  have hgo:z6 ops σ o=some true:=by unfold z6;rw[hgd]
  rw[hgo]
  refine ⟨fun _=>?_,fun h=>by cases h⟩
  obtain ⟨gv,gs⟩:=zkn hg _ n hn
  by_cases hic:i∈cs
  ·obtain ⟨n',hn',heff⟩:=zkm gs i hic (by
    rw[Bool.or_eq_false_iff]
    refine ⟨by rw[hkc i hic];exact hli,?_⟩
    cases hq:cs.any fun d=> !(keyOf cs listed).contains d && zb1 r i d with
    |false=>rfl
    |true=>
     obtain ⟨d,hd,h1⟩:=List.any_eq_true.1 hq
     rw[Bool.and_eq_true] at h1
     rw[hkc d hd,w1 d h1.2] at h1
     cases h1.1) o ho
   refine heff σ A.o (A.sees D hn ho hr) e2 _ fun σ' h1 h2 h3=>ih n' _ σ' ?_ (by simp [hs]) (by have:=zdl hs hin hl;omega) (hcl.set hi) (tt n' σ' h1 h2 h3)
   rw[←hn']
   congr 1
   refine List.filter_congr fun x hx=>?_
   rw[hset,hkc x hx]
   by_cases e:i=x
   ·subst e;simp
   ·have:(x==i)=false:=by simpa using Ne.symm e
    rw[if_neg e,this,Bool.false_or]
  ·refine zmw gv i (hall i hin) ?_ o ho σ A.o (A.sees D hn ho hr) e2 _ fun σ' h1 h2 h3=>ih n _ σ' ?_ (by simp [hs]) (by have:=zdl hs hin hl;omega) (hcl.set hi) (tt n σ' h1 h2 h3)
   ·rw[Bool.or_eq_false_iff]
    refine ⟨by simpa using hic,?_⟩
    cases hq:cs.any fun d=>if (keyOf cs listed).contains d then zb1 r d i else zb1 r i d with
    |false=>rfl
    |true=>
     obtain ⟨d,hd,h1⟩:=List.any_eq_true.1 hq
     rw[hkc d hd] at h1
     cases h2:listed.getD d false with
     |true=>rw[h2,if_pos rfl,w2 d h2] at h1;cases h1
     |false=>
      rw[h2,if_neg (by simp)] at h1
      rw[w1 d h1] at h2;cases h2
   ·rw[←hn]
    congr 1
    refine List.filter_congr fun x hx=>?_
    rw[hset,if_neg (fun e:i=x=>hic (by rw[e];exact hx))]
def zwH (N:Nat)(ops:Array Oper)(r:List (List Nat))(cs is:List Nat)(ks:List (List Nat)):Bool:=
 (List.range ops.size).all (fun i=>match ops[i]? with
  |some o=>o.guard.isNone &&
   (o.looksAt ops).all (fun t=>(List.range ops.size).all fun j=>(match ops[j]? with|some oj=> !(oj.dst==some t)||o.after.any (fun e=>Region.binds .any e && e.on==j)|none=>true))
  |none=>false) &&
 ks.all (fun k=>k.all fun t=>(List.range ops.size).any fun j=>match ops[j]? with|some oj=>oj.dst==some t|none=>false) &&
 zjl ops [] is && (List.range ops.size).all is.contains && cs.all (fun c=>decide (c<ops.size)) && rOk ops r
theorem zko:∀{G:List (List Nat×NodS)} {ps:List Nat} {n:NodS},zdo G ps=some n→∃k,(k,n)∈G
 | [],_,_,h=>by cases h
 |(k,m)::G,ps,n,h=>by
  unfold zdo at h
  cases e:zpN k ps with
  |true=>rw[e] at h;cases h;exact ⟨k,List.mem_cons_self ..⟩
  |false=>rw[e] at h;obtain ⟨k',hk⟩:=zko h;exact ⟨k',List.mem_cons_of_mem _ hk⟩
theorem zaF {id:Nat}{l:List Oper}{Q:Exit→St→Prop}{base:List (Nat×Av)}{own0:List (Nat×Ow)}(hm:P.follows .mixedOrders=true)(r:List (List Nat))(is cs:List Nat)(G:List (List Nat×NodS)){n0 nF:NodS}
  (hok:zwH N l.toArray r cs is (G.map fun p=>p.2.full.map (·.1))=true) (h0:zdo G []=some n0) (hF:zdo G cs=some nF) (hb:n0.base=base) (ho:ze n0.own=ze own0) (hst:zlm P N l.toArray r cs is G G)
  (h:Q .normal ⟨nF.full++nF.base,nF.own⟩):AWp P N w0 S0 (.region id l.toArray true) Q ⟨base,own0⟩:=fun β a w s=>by
 simp only [zwH,Bool.and_eq_true] at hok
 obtain ⟨⟨⟨⟨⟨k1,k2⟩,k3⟩,k4⟩,k5⟩,k6⟩:=hok
 have kk:∀(i:Nat) (o:Oper),l.toArray[i]? =some o→o.guard=none∧∀t∈o.looksAt l.toArray,∀(j:Nat) (oj:Oper),l.toArray[j]? =some oj→oj.dst=some t→∃e∈o.after,Region.binds .any e=true∧e.on=j:=fun i o ho=>by
  have:=List.all_eq_true.1 k1 i (List.mem_range.2 (Array.getElem?_eq_some_iff.1 ho).1)
  rw[ho] at this
  simp only [Bool.and_eq_true] at this
  obtain ⟨h1,h4⟩:=this
  refine ⟨Option.isNone_iff_eq_none.1 h1,fun t ht j oj hj hd=>?_⟩
  have h5:=List.all_eq_true.1 (List.all_eq_true.1 h4 t ht) j (List.mem_range.2 (Array.getElem?_eq_some_iff.1 hj).1)
  rw[hj] at h5
  simp only [hd,beq_self_eq_true,Bool.not_true,Bool.false_or] at h5
  obtain ⟨e,he,hb⟩:=Array.any_eq_true'.1 h5
  simp only [Bool.and_eq_true,beq_iff_eq] at hb
  exact ⟨e,he,hb.1,hb.2⟩
 have D:DN N l.toArray cs G:=⟨fun i o ho=>(kk i o ho).1,fun i o ho=>(kk i o ho).2,fun ps n hn t ht=>by
  obtain ⟨k,hk⟩:=zko hn
  obtain ⟨x,hx⟩:=Option.isSome_iff_exists.1 ht
  have:=List.all_eq_true.1 (List.all_eq_true.1 k2 _ (List.mem_map.2 ⟨_,hk,rfl⟩)) t (List.mem_map.2 ⟨_,Zy hx,rfl⟩)
  obtain ⟨j,hj,h6⟩:=List.any_eq_true.1 this
  cases ho:l.toArray[j]? with
  |none=>rw[ho] at h6;cases h6
  |some oj=>rw[ho] at h6;exact ⟨j,oj,ho,by simpa using h6⟩,fun c hc=>by have:=List.all_eq_true.1 k5 c hc;simpa using this⟩
 have hcl:Closed l.toArray (Array.replicate l.toArray.size false):=fun j o ho hl=>by
  rw[Array.getD_eq_getD_getElem?,Array.getElem?_replicate] at hl
  split at hl<;>cases hl
 have hlf:∀i,(Array.replicate l.toArray.size false).getD i false=false:=fun i=>by
  rw[Array.getD_eq_getD_getElem?,Array.getElem?_replicate];split<;>rfl
 have hk0:keyOf cs (Array.replicate l.toArray.size false)= []:=List.filter_eq_nil_iff.2 fun c _=>by rw[hlf];exact Bool.false_ne_true
 have h1:=zvs (P:=P) (K:=fun σ=>∃τ,Eqv τ σ∧Q .normal τ) k6 D k3 (fun i hi=>by simpa using List.all_eq_true.1 k4 i (List.mem_range.2 hi)) hst hF
  (fun σ h2 h3=>⟨⟨nF.full++nF.base,nF.own⟩,⟨fun t=>by rw[zdG,h3],h2.symm⟩,h⟩) l.toArray.size n0 (Array.replicate l.toArray.size false) ⟨base,own0⟩ (by rw[hk0];exact h0) (by simp) (by
   have:=List.length_filter_le (fun i=> !(Array.replicate l.toArray.size false).getD i true) (List.range l.toArray.size)
   rw[List.length_range] at this;exact this) hcl ⟨ho.symm,fun j oj t _ _ h=>(by rw[hlf] at h;cases h),fun t _=>by subst hb;rfl⟩
 refine wp_region_any hm (zeF (fun β σ a w ⟨τ,e,hq⟩ s=>⟨β,τ,hq,s.eqv e.symm⟩) _ _ β _ a _ h1 (s.grow (w':=w.drew) ?_).1)
 exact (Ext.refl w).drew
end
end Go.Smd
end
section
namespace Go.Smd
open Go.RowKit Go.Proofs Go.Proofs.Tryz
theorem zoB {n:Nat}(hn:n≤9223372036854775807):zO prog (convert 3 317 (.int .i64 n))=some (.c (.d (.v (.int .u64 n)))):=by
 have h:zn prog (convert 3 317 (.int .i64 n))=some (.int .u64 n):=by
  have hw:IntKind.u64.wrap (n:Int)=(n:Int):=by simp [IntKind.wrap,IntKind.bits,IntKind.signed];omega
  simp [convert,underlying,program,bind,Sem.bind,zn,pure,Conv.intToInt,hw]
 unfold zO;rw[h];simp [Zj,zao];omega
theorem zoC {n:Nat}(hn:n≤9223372036854775807):zO prog (convert 317 3 (.int .u64 n))=some (.c (.d (.v (.int .i64 n)))):=by
 have h:zn prog (convert 317 3 (.int .u64 n))=some (.int .i64 n):=by
  have hw:IntKind.wrap .i64 (n:Int)=(n:Int):=by rw[zy]<;>omega
  simp [convert,underlying,program,bind,Sem.bind,zn,pure,Conv.intToInt,hw]
 unfold zO;rw[h];simp [Zj,zao];omega
theorem zuo {P:Program}{T:TypeId}{ox oy:Operand}{n:Nat}(h:n≤9223372036854775807):Z0 P .shr T ox oy (.c (.d (.v (.int .u64 n)))) (.c (.d (.v (.int .u64 1))))=some (.c (.d (.v (.int .u64 ((n / 2:Nat):Int))))):=by
 have hs:zn P (Op.shift .shr .u64 (n:Int) .u64 1)=some (.int .u64 ((n / 2:Nat):Int)):=by
  simp [Op.shift,zn,pure,Sem.bind,bind,IntKind.bits]
  rw[Int.fdiv_eq_ediv_of_nonneg _ (by decide)]
  first|done|rfl
 simp [Z0,zO,eqGuard,binOp,pure,Sem.bind,bind,zn,Zj,zao,hs]
 omega
structure Bound (L:List LE) (e:LE) (p:Nat):Prop where
 le:p≤L.length
 lo:∀(j:Nat) (h:j<L.length),j<p→zat L[j] e<0
 hi:∀(j:Nat) (h:j<L.length),p≤j→0≤zat L[j] e
def zpO (L:List LE)(e:LE)(p:Nat):Prop:=∃x,L[p]? =some x∧zat x e=0
theorem zkp (g:FuncId)(L:List LE)(e:LE)(p:Nat)(fd:Bool)(hl:L.length*32≤140737488351232)(hg:∀x∈L,ACalls prog g [leA x,leA e] (fun r=>r=aI (zat x e)))(hB:Bound L e p)(hf:fd=true↔zpO L e p):
  ACalls prog 201 [.c (.d (zcs L)),leA e,.c (.d (.v (.func (.func g) #[] #[])))] (fun r=>r= .tup [(false,[.d (dI p)]),(false,[.d (dB fd)])]):=by
 obtain ⟨E,hE⟩:∃E,E=leD e:=⟨_,rfl⟩
 have hEl:E.length=4:=by rw[hE];cases e<;>rfl
 obtain ⟨e0,e1,e2,e3,he⟩:∃e0 e1 e2 e3,E= [e0,e1,e2,e3]:=by
  match E,hEl with
  | [a,b,c,d],_=>exact ⟨a,b,c,d,rfl⟩
 have eA:leA e= .agg [.d e0,.d e1,.d e2,.d e3]:=by
  show Av.agg (cls (leD e))=_
  rw[←hE,he];rfl
 rw[eA] at hg ⊢
 clear hE hEl
 have b1:L.length≤9223372036854775807:=by omega
 refine zg [(5,([6],[(0,[]),(1,[]),(2,[]),(3,[]),(4,[]),(5,[]),(6,[]),(7,[])])),(8,([],[(0,[]),(1,[]),(2,[]),(3,[]),(4,[]),(5,[]),(6,[]),(7,[]),(8,[]),(9,[]),(10,[]),(11,[]),(12,[]),(13,[]),(14,[]),(15,[])]))] func201 (by kernel_rfl) rfl ntmps201 results201 (Nat.le_of_ble_eq_true (by kernel_rfl)) ?_;intro hok w0 S0
 clear hok
 (repeat' (first|(with_reducible first|refine zl (fun _=>?_) (fun _=>?_)|refine zk (fun _=>?_) (fun _=>?_)|refine zm zd (by kernel_rfl) ?_|exact zc rfl)|(simp -dsimp [b1])));(all_goals try with_reducible refine zc ?_)
 refine zJ (fun x:Nat×Nat=>⟨[(0,.c (.d (zcs L))),(2,.c (.d (.v (.func (.func g) #[] #[])))),(4,.c (.own 4 0)),(8,aI L.length),(9,aI x.1),(10,aI x.2)],[(4,.cells [.d e0,.d e1,.d e2,.d e3] 101)]⟩) (fun x=>x.1≤p∧p≤x.2∧x.2≤L.length) (fun x=>x.2 - x.1) (0,L.length) ?_ ⟨Nat.zero_le _,hB.le,Nat.le_refl _⟩ ?_
 ·exact Weak.same (by simp -dsimp) (by simp -dsimp) (by first|rfl|(simp [zj,Av.ids,Ow.ids,Cl.ids,Go.Smd.keys];done))
 ·rintro ⟨lo,hi⟩ ⟨h1,h2,h3⟩ K hK
  dsimp only at h1 h2 h3 ⊢
  by_cases hlt:lo<hi
  ·obtain ⟨m,hm⟩:∃m,m=(lo+hi) / 2:=⟨_,rfl⟩
   have hml:m<L.length:=by omega
   obtain ⟨s,hs⟩:∃s:Nat,(lo:Int)+(hi:Int)=(s:Int):=⟨lo+hi,by omega⟩
   have c1:=zoB (n:=s) (by omega)
   have c2:=zoC (n:=m) (by omega)
   have c3:∀{T:TypeId} {ox oy:Operand},Z0 prog .shr T ox oy (.c (.d (.v (.int .u64 (s:Int))))) (.c (.d (.v (.int .u64 1))))=some (.c (.d (.v (.int .u64 (m:Int))))):=by
    have e:m=s / 2:=by omega
    intro T ox oy;rw[e];exact zuo (n:=s) (by omega)
   have hw:IntKind.wrap .i64 (s:Int)=(s:Int):=by rw[zy]<;>omega
   have hw2:IntKind.wrap .i64 ((m:Int)+1)=((m+1:Nat):Int):=by rw[zy]<;>omega
   have hx:=hg _ (List.getElem_mem hml)
   by_cases hc:zat L[m] e<0
   ·(repeat' (first|(with_reducible first|refine zl (fun _=>?_) (fun _=>?_)|refine zk (fun _=>?_) (fun _=>?_)|refine zt (hx) (by first|rfl|(simp -dsimp [b1,hlt,hs,c1,c2,c3,hw,hw2,hml,hc];done)) ?_|(refine Zu (hx) rfl ?_ ?_ ?_;iterate 2 exact by first|rfl|(simp -dsimp [b1,hlt,hs,c1,c2,c3,hw,hw2,hml,hc];done))|refine zm zd (by kernel_rfl) ?_|exact zc rfl)|(simp -dsimp [b1,hlt,hs,c1,c2,c3,hw,hw2,hml,hc])));(all_goals try with_reducible refine zc ?_)
    refine hK _ (m+1,hi) ?_ ⟨?_,h2,h3⟩ (by dsimp only;omega)
    ·exact Weak.same (by simp -dsimp) (by simp -dsimp) (by first|rfl|(simp [zj,Av.ids,Ow.ids,Cl.ids,Go.Smd.keys];done))
    ·dsimp only
     apply Classical.byContradiction
     intro hn
     have:=hB.hi m hml (by omega);omega
   ·(repeat' (first|(with_reducible first|refine zl (fun _=>?_) (fun _=>?_)|refine zk (fun _=>?_) (fun _=>?_)|refine zt (hx) (by first|rfl|(simp -dsimp [b1,hlt,hs,c1,c2,c3,hw,hw2,hml,hc];done)) ?_|(refine Zu (hx) rfl ?_ ?_ ?_;iterate 2 exact by first|rfl|(simp -dsimp [b1,hlt,hs,c1,c2,c3,hw,hw2,hml,hc];done))|refine zm zd (by kernel_rfl) ?_|exact zc rfl)|(simp -dsimp [b1,hlt,hs,c1,c2,c3,hw,hw2,hml,hc])));(all_goals try with_reducible refine zc ?_)
    refine hK _ (lo,m) ?_ ⟨h1,?_,by dsimp only;omega⟩ (by dsimp only;omega)
    ·exact Weak.same (by simp -dsimp) (by simp -dsimp) (by first|rfl|(simp [zj,Av.ids,Ow.ids,Cl.ids,Go.Smd.keys];done))
    ·dsimp only
     apply Classical.byContradiction
     intro hn
     exact hc (hB.lo m hml (by omega))
  ·have e1:lo=p:=by omega
   have e2:hi=p:=by omega
   subst e1;subst e2
   by_cases hpl:hi<L.length
   ·have hx:=hg _ (List.getElem_mem hpl)
    have hf2:fd=decide (zat L[hi] e=0):=by
     rw[Bool.eq_iff_iff,hf,decide_eq_true_eq]
     exact ⟨fun ⟨x,h5,h6⟩=>(by rw[List.getElem?_eq_getElem hpl] at h5;cases h5;exact h6),fun h5=>⟨_,List.getElem?_eq_getElem hpl,h5⟩⟩
    by_cases hc:zat L[hi] e=0
    ·(repeat' (first|(with_reducible first|refine zl (fun _=>?_) (fun _=>?_)|refine zk (fun _=>?_) (fun _=>?_)|refine zt (hx) (by first|rfl|(simp -dsimp [b1,hlt,hpl,hc];done)) ?_|(refine Zu (hx) rfl ?_ ?_ ?_;iterate 2 exact by first|rfl|(simp -dsimp [b1,hlt,hpl,hc];done))|refine zm zd (by kernel_rfl) ?_|exact zc rfl)|(simp -dsimp [b1,hlt,hpl,hc])));(all_goals try with_reducible refine zc ?_)
     rw[hf2];simp [hc]
    ·(repeat' (first|(with_reducible first|refine zl (fun _=>?_) (fun _=>?_)|refine zk (fun _=>?_) (fun _=>?_)|refine zt (hx) (by first|rfl|(simp -dsimp [b1,hlt,hpl,hc];done)) ?_|(refine Zu (hx) rfl ?_ ?_ ?_;iterate 2 exact by first|rfl|(simp -dsimp [b1,hlt,hpl,hc];done))|refine zm zd (by kernel_rfl) ?_|exact zc rfl)|(simp -dsimp [b1,hlt,hpl,hc])));(all_goals try with_reducible refine zc ?_)
     rw[hf2];simp [hc]
   ·have hf2:fd=false:=by
     rw[Bool.eq_false_iff]
     intro h5
     obtain ⟨x,h6,_⟩:=hf.1 h5
     have:=(List.getElem?_eq_some_iff.1 h6).1
     omega
    (repeat' (first|(with_reducible first|refine zl (fun _=>?_) (fun _=>?_)|refine zk (fun _=>?_) (fun _=>?_)|refine zm zd (by kernel_rfl) ?_|exact zc rfl)|(simp -dsimp [b1,hlt,hpl])));(all_goals try with_reducible refine zc ?_)
    rw[hf2]
end Go.Smd
end
section
namespace Go.Smd
open Go.RowKit
section
variable {P:Program}
theorem zbx (w:World)(dT sT ty elem:TypeId)(size g o dLen dCap:Nat)(a:Addr)(sLen sCap:Nat)(cur:Array Value)(t:TypeId)(cs:List Value)
  (hu:P.underlying dT=some (.slice elem)) (hs:(P.info? elem).map (·.size)=some size)
  (hg:w.heap[g]? =some (.cells cur t (0,0))) (hn:cs.length=Nat.min sLen dLen*size)
  (hsrc:∀j v,cs[j]? =some v→w.cell? (a.add j)=some v) (hfit:o+cs.length≤cur.size) (h1:∀v∈cs,v.oneCell'=true):
  (Builtin.copy_ #[dT,sT] ty #[.slice (some ⟨g,o,none⟩) dLen dCap,.slice (some a) sLen sCap]).run P w=
   .ok (goInt (Nat.min sLen dLen)) (w.setRow g (cur.toList.take o++cs++cur.toList.drop (o+cs.length)).toArray):=by
 have hl:=run_loadCells_list (P:=P) w a cs hsrc
 have hst:=run_storeCells_at P g o t cs 0 cur w hg (by simpa using hfit) h1
 cases hq:P.info? elem with
 |none=>simp [hq] at hs
 |some i=>
  have hi:i.size=size:=by simpa [hq] using hs
  simp [Builtin.copy_,run_underlying hu,Builtin.lenOf,Builtin.firstCells,sizeOf,typeInfo,hq,hi,←hn,hl,hst]
theorem zeU (w:World)(tS tR e:TypeId)(ht:P.underlying tS=some (.slice e))(size:Nat)(hz:∀w,(Go.sizeOf e).run P w= .ok size w)
  (a b:Addr) (la ca lb cb:Nat) (hne:a.block≠b.block) {u:Value} (hsa:w.cell? a=some u) {cur:Array Value} {tB:TypeId} (hsb:w.heap[b.block]? =some (.cells cur tB (0,0))) (hk:cur.size≠0):
  (Extern.SlicesOverlaps.overlaps #[tS,tS] #[tR] #[.slice (some a) la ca,.slice (some b) lb cb]).run P w= .ok (.bool false) w:=by
 have hnb:(a.block !=b.block)=true:=by simpa using hne
 have hnb':(a.block==b.block)=false:=by simpa using hne
 change Sem.run P (α:=Value) (do
  let some t:=(#[tS,tS]:Array TypeId)[0]? |stuck "slices.overlaps: no parameter types"
  let .slice elem ←underlying t|stuck "slices.overlaps: slice type expected"
  let size ←sizeOf elem
  match (some a:Option Addr),(some b:Option Addr) with
  |some a,some b=>
   if la=0∨lb=0∨size=0 then pure (Value.bool false)
   else if a.block !=b.block && (←frozen a) && (←frozen b) then unsupported .addressObserved
   else do
    if a.block !=b.block then do
     noView a;noView b
     if ←mayBeOne a b then return Value.bool ((←choose (.extern "sameAddr.stringBytes" 2))==1)
    pure (Value.bool (a.block==b.block && a.off<b.off+lb*size && b.off<a.off+la*size))
  |_,_=>pure (Value.bool false)) w=_
 obtain ⟨ca',tA,fr,hha,hoff⟩:∃c t fr,w.heap[a.block]? =some (.cells c t fr)∧c.size≠0:=by
  unfold World.cell? at hsa
  split at hsa
  ·next c t fr hh=>
   refine ⟨c,t,fr,hh,fun h0=>?_⟩
   split at hsa
   ·cases hsa
   ·have:=(Array.getElem?_eq_some_iff.1 hsa).1;omega
  ·cases hsa
 have s1:w.shape? a.block=some (tA,ca'.size):=by simp [World.shape?,hha]
 have s2:w.shape? b.block=some (tB,cur.size):=by simp [World.shape?,hsb]
 have f1:∀o,w.frozen? ⟨b.block,o,none⟩=false:=fun o=>by simp [World.frozen?,hsb]
 have f2:w.frozen? b=false:=by simp [World.frozen?,hsb]
 by_cases h0:la=0∨lb=0∨size=0
 ·simp [run_underlying ht,hz,h0]
 ·obtain ⟨k,hkk⟩:∃k,ca'.size=k+1:=⟨ca'.size - 1,by omega⟩
  obtain ⟨m,hmm⟩:∃m,cur.size=m+1:=⟨cur.size - 1,by omega⟩
  rw[hkk] at s1
  rw[hmm] at s2
  cases hfa:w.frozen? a<;>simp [run_underlying ht,hz,h0,hnb,hnb',frozen,noView,viewAt,mayBeOne,stringish,shape,Sem.run,s1,s2,f1,f2,hfa]
end
section
variable {α:Type} {R:α→List Value→Prop} {size:Nat} {xs:List α} {cs:List Value}
theorem Elems.take (h:Elems R size xs cs)(n:Nat):Elems R size (xs.take n) (cs.take (n*size)):=by
 refine ⟨?_,fun j x hj=>?_⟩
 ·rw[List.length_take,List.length_take,h.1]
  rcases Nat.le_total n xs.length with hn|hn
  ·rw[Nat.min_eq_left hn,Nat.min_eq_left (Nat.mul_le_mul_right _ hn)]
  ·rw[Nat.min_eq_right hn,Nat.min_eq_right (Nat.mul_le_mul_right _ hn)]
 ·rw[List.getElem?_take] at hj
  split at hj
  ·next hjn=>
   have:=h.2 j x hj
   rw[List.drop_take,List.take_take,Nat.min_eq_left]
   ·exact this
   ·have:(j+1)*size≤n*size:=Nat.mul_le_mul_right _ hjn
    rw[Nat.add_mul] at this;omega
  ·cases hj
theorem Elems.drop (h:Elems R size xs cs)(n:Nat):Elems R size (xs.drop n) (cs.drop (n*size)):=by
 refine ⟨?_,fun j x hj=>?_⟩
 ·rw[List.length_drop,List.length_drop,h.1,Nat.sub_mul]
 ·rw[List.getElem?_drop] at hj
  have:=h.2 _ x hj
  rw[List.drop_drop,←Nat.add_mul]
  exact this
theorem zmx {β:Type}{cur cs ys:List β}{a s m:Nat}(htake:cur.take (a+m)=cs)(hcl:cs.length=a+m)(hsm:s≤m)(hy:ys.length=s):
  (((cur.take (a+s)++cs.drop a)++cur.drop (a+s+(cs.drop a).length)).take a++ys++((cur.take (a+s)++cs.drop a)++cur.drop (a+s+(cs.drop a).length)).drop (a+ys.length)).take (a+m+s)=cs.take a++(ys++cs.drop a):=by
 have hc:a+m≤cur.length:=by
  have:=congrArg List.length htake
  rw[List.length_take,hcl] at this;omega
 have l1:(cur.take (a+s)).length=a+s:=by rw[List.length_take];omega
 have e1:((cur.take (a+s)++cs.drop a)++cur.drop (a+s+(cs.drop a).length)).take a=cs.take a:=by
  rw[List.append_assoc,List.take_append_of_le_length (by omega),List.take_take,Nat.min_eq_left (by omega),←htake,List.take_take,Nat.min_eq_left (by omega)]
 have e2:((cur.take (a+s)++cs.drop a)++cur.drop (a+s+(cs.drop a).length)).drop (a+ys.length)=cs.drop a++cur.drop (a+s+(cs.drop a).length):=by
  rw[List.append_assoc,hy]
  exact List.drop_left' l1
 rw[e1,e2,←List.append_assoc,List.append_assoc (cs.take a)]
 refine List.take_left' ?_
 simp only [List.length_append,List.length_take,List.length_drop,hcl,hy]
 omega
theorem zkq {β:Type}{row cs ys c1:List β}{a s m:Nat}(htake:row.take a=cs.take a)(hrl:a+s+m≤row.length)(hcl:cs.length=a+m)(hy:ys.length=s)(hc1:c1=row.take a++ys++row.drop (a+ys.length)):
  (c1.take (a+s)++cs.drop a++c1.drop (a+s+(cs.drop a).length)).take (a+m+s)=cs.take a++(ys++cs.drop a):=by
 have l1:(row.take a++ys).length=a+s:=by rw[List.length_append,List.length_take,hy];omega
 have e1:c1.take (a+s)=row.take a++ys:=by rw[hc1];exact List.take_left' l1
 rw[e1,htake,List.append_assoc (cs.take a)]
 refine List.take_left' ?_
 simp only [List.length_append,List.length_take,List.length_drop,hcl,hy]
 omega
def Za (i:Nat)(y:α)(xs:List α):List α:=xs.take i++y::xs.drop i
theorem zan (i:Nat)(y:α)(xs:List α):(Za i y xs).length=xs.length+1:=by
 unfold Za
 simp only [List.length_append,List.length_take,List.length_cons,List.length_drop]
 omega
theorem Elems.ins {y:α}{ys:List Value}(h:Elems R size xs cs)(i:Nat)(hy:R y ys)(hl:ys.length=size):Elems R size (Za i y xs) (cs.take (i*size)++(ys++cs.drop (i*size))):=
 (h.take i).app ((Elems.one hy hl).app (h.drop i))
end
end Go.Smd
end
