/- Part 34 of the proof: Jo Jp Zs. -/
import Derived.Test.YtdgnolbdcmgfoaaGreatQO33
import Derived.Test.YtdgnolbdcmgfoaaGreatQO19
import Derived.Test.YtdgnolbdcmgfoaaGreatQO32
set_option linter.unusedVariables false
set_option linter.unusedSimpArgs false
set_option maxRecDepth 100000
set_option maxHeartbeats 8000000
section
namespace Go.Smd
open Go.RowKit Go.Proofs Go.Proofs.Tryz
theorem zoO (a b:GV)(ha:z8 (zp a))(hb:z8 (zp b))(oa:OG a)(ob:OG b):zbJ (zz a) (zz b)=0↔eqP (zz a) (zz b)=true:=by
 have fa:z8 (zp (zz a)):=by rw[←zb4 a];exact zfk _ ha
 have fb:z8 (zp (zz b)):=by rw[←zb4 b];exact zfk _ hb
 have h:=zrW (zz a) (zz b) fa fb oa ob
 rwa[zgP _ _ fa fb,ziL _ _ fa fb,zcr,zcr] at h
theorem zoP:∀l m:List (ByteArray×GV),(∀p∈l,z8 (zp p.2)∧OG p.2)→(∀p∈m,z8 (zp p.2)∧OG p.2)→(zF zcR l m=0↔zeR l m=true)
 | [],[],_,_=>by simp [zF,zeR]
 | [],_::_,_,_=>by simp [zF,zeR]
 |_::_,[],_,_=>by simp [zF,zeR]
 |p::l,q::m,hl,hm=>by
  have ih:=zoP l m (fun x hx=>hl x (List.mem_cons_of_mem _ hx)) (fun x hx=>hm x (List.mem_cons_of_mem _ hx))
  have hp:=hl p (by simp)
  have hq:=hm q (by simp)
  have hv:=zoO p.2 q.2 hp.1 hq.1 hp.2 hq.2
  have hg:zcR p q=0↔p.1=q.1∧zbJ (zz p.2) (zz q.2)=0:=by
   unfold zcR
   by_cases h1:p.1=q.1
   ·have h0:=zgR.2 h1
    rw[if_neg (show ¬zb6 p.1 q.1≠0 from fun h=>h h0)]
    exact ⟨fun h=>⟨h1,h⟩,fun h=>h.2⟩
   ·have h0:zb6 p.1 q.1≠0:=fun h=>h1 (zgR.1 h)
    rw[if_pos h0]
    exact ⟨fun h=>absurd h h0,fun h=>absurd h.1 h1⟩
  simp only [zF,zeR,Bool.and_eq_true,decide_eq_true_eq]
  rw[←hv,←ih,←hg]
  by_cases h0:zcR p q=0
  ·rw[if_neg (show ¬zcR p q≠0 from fun h=>h h0)]
   exact ⟨fun h=>⟨h0,h⟩,fun h=>h.2⟩
  ·rw[if_pos (show zcR p q≠0 from h0)]
   exact ⟨fun h=>absurd h h0,fun h=>absurd h.1 h0⟩
theorem ze0 {a b:EV}(ha:GoodE a)(hb:GoodE b):zeu a b=true↔zG a b=0:=by
 unfold zeu zG
 by_cases hr:rkE a.k=rkE b.k
 ·have h0:=zgS.2 hr
  rw[if_neg (show ¬rkE a.k≠rkE b.k from fun h=>h hr),if_neg (show ¬zT (rkE a.k) (rkE b.k)≠0 from fun h=>h h0)]
  by_cases h1:rkE a.k=1
  ·rw[if_pos h1,if_pos h1]
   exact (zoP _ _ (fun p hp=>⟨ha.f.zip p hp,ha.o.key h1 p hp⟩) fun p hp=>⟨hb.f.zip p hp,hb.o.key (hr▸h1) p hp⟩).symm
  ·rw[if_neg h1,if_neg h1]
   by_cases h2:rkE a.k=2
   ·rw[if_pos h2,if_pos h2]
    exact (zoO _ _ ha.f.val hb.f.val (ha.o.val h2) (hb.o.val (hr▸h2))).symm
   ·rw[if_neg h2,if_neg h2]
    by_cases h3:rkE a.k=3
    ·rw[if_pos h3,if_pos h3,decide_eq_true_eq,zgS]
    ·rw[if_neg h3,if_neg h3,decide_eq_true_eq,zgR]
 ·have h0:zT (rkE a.k) (rkE b.k)≠0:=fun h=>hr (zgS.1 h)
  rw[if_pos hr,if_pos h0]
  simp [h0]
section
variable {α:Type} {O:α→Prop} {c:α→α→Int}
theorem ze1 (hO:Ord3 O c):∀{A B:List α},(∀x∈A,O x)→(∀x∈B,O x)→A.Pairwise (fun x y=>c x y<0)→B.Pairwise (fun x y=>c x y<0)→(∀x∈A,∃y∈B,c x y=0)→(∀y∈B,∃x∈A,c x y=0)→All2 (fun x y=>c x y=0) A B
 | [],[],_,_,_,_,_,_=>.nil
 | [],b::B,_,_,_,_,_,h=>by obtain ⟨x,hx,_⟩:=h b (by simp);cases hx
 |a::A,[],_,_,_,_,h,_=>by obtain ⟨x,hx,_⟩:=h a (by simp);cases hx
 |a::A,b::B,oA,oB,sA,sB,h1,h2=>by
  have sA:=List.pairwise_cons.1 sA
  have sB:=List.pairwise_cons.1 sB
  have oa:=oA a (by simp)
  have ob:=oB b (by simp)
  have ab:c a b=0:=by
   obtain ⟨y,hy,e1⟩:=h1 a (by simp)
   obtain ⟨x,hx,e2⟩:=h2 b (by simp)
   rcases List.mem_cons.1 hy with rfl|hy
   ·exact e1
   ·rcases List.mem_cons.1 hx with rfl|hx
    ·exact e2
    ·have oy:=oB y (List.mem_cons_of_mem _ hy)
     have ox:=oA x (List.mem_cons_of_mem _ hx)
     have k1:=hO.le_lt ob oy oa (Int.le_of_lt (sB.1 y hy))|>fun _=>sB.1 y hy
     have k2:=sA.1 x hx
     have e1':=hO.anti a y oa oy
     have e2':=hO.anti x b ox ob
     have k3:c b a<0:=hO.lt_le ob oy oa k1 (by omega)
     have k4:c a b<0:=hO.lt_le oa ox ob k2 (by omega)
     have:=hO.anti a b oa ob
     omega
  refine .cons ab (ze1 hO (fun x hx=>oA x (List.mem_cons_of_mem _ hx)) (fun x hx=>oB x (List.mem_cons_of_mem _ hx)) sA.2 sB.2 (fun x hx=>?_) fun y hy=>?_)
  ·obtain ⟨y,hy,e⟩:=h1 x (List.mem_cons_of_mem _ hx)
   rcases List.mem_cons.1 hy with rfl|hy
   ·have ox:=oA x (List.mem_cons_of_mem _ hx)
    have:=hO.anti x y ox ob
    have:=hO.eq_trans oa ob ox ab (by omega)
    have:=sA.1 x hx
    omega
   ·exact ⟨y,hy,e⟩
  ·obtain ⟨x,hx,e⟩:=h2 y (List.mem_cons_of_mem _ hy)
   rcases List.mem_cons.1 hx with rfl|hx
   ·have oy:=oB y (List.mem_cons_of_mem _ hy)
    have:=hO.anti x b oa ob
    have:=hO.eq_trans ob oa oy (by omega) e
    have:=sB.1 y hy
    omega
   ·exact ⟨x,hx,e⟩
end
mutual
def ze2:PS→PS→Bool
 | .mk ms ks,.mk ms' ks'=>eqEs ms ms' && eqPK ks ks'
def eqPK:PK→PK→Bool
 | .nil,.nil=>true
 | .cons e s r,.cons e' s' r'=>zeu e e' && ze2 s s' && eqPK r r'
 |_,_=>false
def eqEs:List EV→List EV→Bool
 | [],[]=>true
 |x::a,y::b=>zeu x y && eqEs a b
 |_,_=>false
end
theorem zoQ:∀{a b:List EV},(∀x∈a,GoodE x)→(∀x∈b,GoodE x)→All2 (fun x y=>zG x y=0) a b→eqEs a b=true
 |_,_,_,_,.nil=>by simp only [eqEs]
 |x::a,y::b,ha,hb,.cons h t=>by
  simp only [eqEs,Bool.and_eq_true]
  exact ⟨(ze0 (ha x (by simp)) (hb y (by simp))).2 h,zoQ (fun z hz=>ha z (List.mem_cons_of_mem _ hz)) (fun z hz=>hb z (List.mem_cons_of_mem _ hz)) t⟩
mutual
def PS.full:PS→Prop
 | .mk _ ks=>ks.full
def PK.full:PK→Prop
 | .nil=>True
 | .cons _ s r=>s.size≠0∧s.full∧r.full
end
theorem PK.full_all:∀{k:PK},k.full→∀s∈k.ss,s.size≠0∧s.full
 | .nil,_,s,h=>by simp [PK.ss] at h
 | .cons e t r,hf,s,h=>by
  simp only [PK.full] at hf
  simp only [PK.ss] at h
  rcases List.mem_cons.1 h with h|h
  ·rw[h];exact ⟨hf.1,hf.2.1⟩
  ·exact PK.full_all hf.2.2 s h
theorem zkE {e:EV}{t:PS}(h1:t.size≠0)(h2:t.full):∀{k:PK},k.full→(zbz e t k).full
 | .nil,_=>by simp only [zbz,PK.full];exact ⟨h1,h2,trivial⟩
 | .cons x s r,h=>by
  simp only [PK.full] at h
  simp only [zbz]
  split
  ·simp only [PK.full];exact ⟨h.1,h.2.1,zkE h1 h2 h.2.2⟩
  ·split
   ·simp only [PK.full];exact ⟨h1,h2,h.2.2⟩
   ·simp only [PK.full];exact ⟨h1,h2,h⟩
theorem zkF {e:EV}:∀{k:PK},k.full→(Zw e k).full
 | .nil,_=>by simp only [Zw,PS.empty,PS.full,PK.full]
 | .cons x s r,h=>by
  simp only [PK.full] at h
  simp only [Zw]
  split
  ·exact zkF h.2.2
  ·split
   ·exact h.2.1
   ·simp only [PS.empty,PS.full,PK.full]
theorem zoR {e:EV}:∀{k:PK},(Zw e k).size≤k.size
 | .nil=>by simp [Zw,PS.empty,PS.size,PK.size]
 | .cons x s r=>by
  have:=zoR (e:=e) (k:=r)
  simp only [Zw,PK.size]
  split
  ·omega
  ·split
   ·omega
   ·simp [PS.empty,PS.size,PK.size]
theorem zi5:∀(q:List EV) {s:PS},s.has q=true→s.size≠0
 | [],s,h=>by simp [PS.has] at h
 | [e],.mk ms ks,h=>by
  simp only [PS.has,zel] at h
  obtain ⟨x,hx,_⟩:=h
  have:=List.length_pos_of_mem hx
  simp only [PS.size];omega
 |e::f::p,.mk ms ks,h=>by
  simp only [PS.has] at h
  have h1:=zi5 (f::p) h
  have h2:=zoR (e:=e) (k:=ks)
  simp only [PS.size];omega
theorem zmT {N:Nat}:∀(p:List EV) {s:PS},OkS N s→s.full→(∀e∈p,GoodE e)→(s.ins p).full
 | [],s,_,h,_=>by rw[zfi];exact h
 | [e],.mk ms ks,_,h,_=>by simp only [PS.ins,PS.full] at h ⊢;exact h
 |e::f::p,.mk ms ks,ok,h,hp=>by
  simp only [OkS] at ok
  simp only [PS.full] at h
  have hp':∀x∈f::p,GoodE x:=fun x hx=>hp x (List.mem_cons_of_mem _ hx)
  have okk:=zdr e ok.2.2.2.2.2.2
  simp only [PS.ins,PS.full]
  refine zkE (zi5 (f::p) ((PS.ins_has (f::p) (f::p) okk hp' (fun x hx=>(hp' x hx).o) (by simp) (by simp)).2 (.inl (zbR.refl fun x hx=>(hp' x hx).o)))) (zmT (f::p) okk (zkF h) hp') h
theorem zi6:∀(n:Nat) (l:List (List EV)),l.length=n→(∀p∈l,∀e∈p,GoodE e)→(mkP l).full
 |0,l,h,_=>by cases l with|nil=>simp [PS.empty,PS.full,PK.full]|cons _ _=>simp at h
 |n+1,l,h,hg=>by
  obtain ⟨m,p,rfl⟩:∃m p,l=m++ [p]:=⟨l.dropLast,l.getLast (by intro h0;rw[h0] at h;simp at h),(List.dropLast_concat_getLast _).symm⟩
  have hm:∀q∈m,∀e∈q,GoodE e:=fun q hq=>hg q (by simp [hq])
  rw[zdP]
  exact zmT p (zeW _ m rfl hm) (zi6 n m (by simpa using h) hm) (hg p (by simp))
theorem zgr:∀{k:PK},(∀x∈k.es,OE x)→zde k.es→∀(i:Nat) (h:i<k.es.length) (h':i<k.ss.length),Zw k.es[i] k=k.ss[i]
 | .nil,_,_,i,h,_=>by simp [PK.es] at h
 | .cons x s r,ho,hs,0,_,_=>by
  have:=zB.refl (ho x (by simp [PK.es]))
  show Zw x (.cons x s r)=s
  simp only [Zw]
  rw[if_neg (show ¬zG x x<0 by omega),if_pos this]
 | .cons x s r,ho,hs,i+1,h,h'=>by
  simp only [PK.es] at hs
  have hs:=List.pairwise_cons.1 hs
  have h1:i<r.es.length:=by simpa [PK.es] using h
  have h2:i<r.ss.length:=by simpa [PK.ss] using h'
  show Zw r.es[i] (.cons x s r)=r.ss[i]
  simp only [Zw]
  rw[if_pos (hs.1 _ (List.getElem_mem h1))]
  exact zgr (fun y hy=>ho y (by simp [PK.es,hy])) hs.2 i h1 h2
theorem zkG {e:EV}:∀{k:PK},(Zw e k).size≠0→∃x∈k.es,zG x e=0
 | .nil,h=>by simp [Zw,PS.empty,PS.size,PK.size] at h
 | .cons x s r,h=>by
  simp only [Zw] at h
  split at h
  ·obtain ⟨y,hy,h0⟩:=zkG h
   exact ⟨y,by simp [PK.es,hy],h0⟩
  ·split at h
   ·next h0=>exact ⟨x,by simp [PK.es],h0⟩
   ·simp [PS.empty,PS.size,PK.size] at h
theorem zst {N:Nat}:∀s:PS,OkS N s→s.full→s.size≠0→∃q:List EV,q≠ []∧(∀e∈q,GoodE e)∧s.has q=true:=
 ziY fun ms ks ih ok hf hs=>by
  simp only [OkS] at ok
  simp only [PS.full] at hf
  cases ms with
  |cons x ms=>
   refine ⟨[x],by simp,fun e he=>?_,?_⟩
   ·simp at he;subst he;exact ok.1 e (by simp)
   ·simp only [PS.has,zel]
    exact ⟨x,by simp,zB.refl (ok.1 x (by simp)).o⟩
  |nil=>
   cases ks with
   |nil=>simp [PS.size,PK.size] at hs
   |cons e s r=>
    simp only [PK.full] at hf
    simp only [OkK] at ok
    obtain ⟨q,h1,h2,h3⟩:=ih s (by simp [PK.ss]) ok.2.2.2.2.2.2.1 hf.2.1 hf.1
    have he:GoodE e:=ok.2.2.2.1 e (by simp [PK.es])
    refine ⟨e::q,by simp,fun x hx=>?_,?_⟩
    ·rcases List.mem_cons.1 hx with rfl|hx
     ·exact he
     ·exact h2 x hx
    ·obtain ⟨f,p,rfl⟩:∃f p,q=f::p:=by cases q with|nil=>exact absurd rfl h1|cons f p=>exact ⟨f,p,rfl⟩
     have h0:=zB.refl he.o
     simp only [PS.has,Zw]
     rw[if_neg (by omega),if_pos h0];exact h3
theorem zoS:∀{k k':PK},(∀x∈k.es,GoodE x)→(∀x∈k'.es,GoodE x)→All2 (fun x y=>zG x y=0) k.es k'.es→(∀(i:Nat) (h:i<k.ss.length) (h':i<k'.ss.length),ze2 k.ss[i] k'.ss[i]=true)→eqPK k k'=true
 | .nil,.nil,_,_,_,_=>by simp only [eqPK]
 | .nil,.cons _ _ _,_,_,h,_=>by have:=h.length;simp [PK.es] at this
 | .cons _ _ _,.nil,_,_,h,_=>by have:=h.length;simp [PK.es] at this
 | .cons e s r,.cons e' s' r',g,g',h,hs=>by
  simp only [PK.es] at h
  cases h with
  |cons h t=>
   simp only [eqPK,Bool.and_eq_true]
   refine ⟨⟨(ze0 (g e (by simp [PK.es])) (g' e' (by simp [PK.es]))).2 h,?_⟩,zoS (fun x hx=>g x (by simp [PK.es,hx])) (fun x hx=>g' x (by simp [PK.es,hx])) t fun i h1 h2=>?_⟩
   ·exact hs 0 (by simp [PK.ss]) (by simp [PK.ss])
   ·exact hs (i+1) (by simp [PK.ss,h1]) (by simp [PK.ss,h2])
theorem zsu {N M:Nat}:∀s:PS,OkS N s→s.full→∀t:PS,OkS M t→t.full→(∀q:List EV,q≠ []→(∀e∈q,GoodE e)→(s.has q=true↔t.has q=true))→ze2 s t=true:=
 ziY fun ms ks ih ok hf t ok' hf' hh=>by
  obtain ⟨ms',ks'⟩:=t
  simp only [OkS] at ok ok'
  simp only [PS.full] at hf hf'
  have h1:∀e,GoodE e→((∃x∈ms,zG x e=0)↔∃x∈ms',zG x e=0):=fun e he=>by
   have:=hh [e] (by simp) fun x hx=>by simp at hx;subst hx;exact he
   simpa only [PS.has,zel] using this
  have h2:∀e,GoodE e→∀q:List EV,q≠ []→(∀x∈q,GoodE x)→((Zw e ks).has q=true↔(Zw e ks').has q=true):=fun e he q hq hg=>by
   obtain ⟨f,p,rfl⟩:∃f p,q=f::p:=by cases q with|nil=>exact absurd rfl hq|cons f p=>exact ⟨f,p,rfl⟩
   have:=hh (e::f::p) (by simp) fun x hx=>by
    rcases List.mem_cons.1 hx with rfl|hx
    ·exact he
    ·exact hg x hx
   simpa only [PS.has] using this
  have o1:∀x∈ms,OE x:=fun x hx=>(ok.1 x hx).o
  have o2:∀x∈ms',OE x:=fun x hx=>(ok'.1 x hx).o
  have k1:∀x∈ks.es,OE x:=fun x hx=>(ok.2.2.2.1 x hx).o
  have k2:∀x∈ks'.es,OE x:=fun x hx=>(ok'.2.2.2.1 x hx).o
  have am:All2 (fun x y=>zG x y=0) ms ms':=ze1 zB o1 o2 ok.2.1 ok'.2.1
   (fun x hx=>by
    obtain ⟨y,hy,h0⟩:=(h1 x (ok.1 x hx)).1 ⟨x,hx,zB.refl (o1 x hx)⟩
    exact ⟨y,hy,by have:=zB.anti y x (o2 y hy) (o1 x hx);omega⟩)
   fun y hy=>(h1 y (ok'.1 y hy)).2 ⟨y,hy,zB.refl (o2 y hy)⟩
  have sub:∀{A B:PK} {K:Nat},OkK K A→A.full→(∀x∈A.es,GoodE x)→zde A.es→(∀e,GoodE e→∀q:List EV,q≠ []→(∀x∈q,GoodE x)→(Zw e A).has q=true→(Zw e B).has q=true)→∀x∈A.es,∃y∈B.es,zG y x=0:=fun {A B K} oA fA gA sA hAB x hx=>by
   obtain ⟨i,hi,rfl⟩:=List.getElem_of_mem hx
   have hi':i<A.ss.length:=by rw[PK.ss_length];exact hi
   have hn:=zgr (fun z hz=>(gA z hz).o) sA i hi hi'
   have hm:=List.getElem_mem hi'
   obtain ⟨q,q1,q2,q3⟩:=zst _ (oA.all _ hm) (PK.full_all fA _ hm).2 (PK.full_all fA _ hm).1
   exact zkG (zi5 q (hAB _ (gA _ hx) q q1 q2 (by rw[hn];exact q3)))
  have ak:All2 (fun x y=>zG x y=0) ks.es ks'.es:=ze1 zB k1 k2 ok.2.2.2.2.1 ok'.2.2.2.2.1
   (fun x hx=>by
    obtain ⟨y,hy,h0⟩:=sub (B:=ks') ok.2.2.2.2.2.2 hf ok.2.2.2.1 ok.2.2.2.2.1 (fun e he q hq hg h=>(h2 e he q hq hg).1 h) x hx
    exact ⟨y,hy,by have:=zB.anti y x (k2 y hy) (k1 x hx);omega⟩)
   (sub (B:=ks) ok'.2.2.2.2.2.2 hf' ok'.2.2.2.1 ok'.2.2.2.2.1 fun e he q hq hg h=>(h2 e he q hq hg).2 h)
  simp only [ze2,Bool.and_eq_true]
  refine ⟨zoQ ok.1 ok'.1 am,zoS ok.2.2.2.1 ok'.2.2.2.1 ak fun i hi hi'=>?_⟩
  have j1:i<ks.es.length:=by rw[←PK.ss_length];exact hi
  have j2:i<ks'.es.length:=by rw[←PK.ss_length];exact hi'
  have hm:=List.getElem_mem hi
  have hm':=List.getElem_mem hi'
  refine ih _ hm (ok.2.2.2.2.2.2.all _ hm) (PK.full_all hf _ hm).2 _ (ok'.2.2.2.2.2.2.all _ hm') (PK.full_all hf' _ hm').2 fun q hq hg=>?_
  have e1:=zgr k1 ok.2.2.2.2.1 i j1 hi
  have e2:=zgr k2 ok'.2.2.2.2.1 i j2 hi'
  have hxe:zG ks.es[i] ks'.es[i]=0:=by
   obtain ⟨y,hy,h0⟩:=ak.at (List.getElem?_eq_getElem j1)
   rw[List.getElem?_eq_getElem j2] at hy
   cases hy;exact h0
  have e3:=zgZ (k1 _ (List.getElem_mem j1)) (k2 _ (List.getElem_mem j2)) hxe k2
  rw[←e1,←e2,←e3]
  exact h2 _ (ok.2.2.2.1 _ (List.getElem_mem j1)) q hq hg
theorem zcK:∀{a b:List EV},eqEs a b=true↔a.length=b.length∧∀(i:Nat) (h:i<a.length) (h':i<b.length),zeu a[i] b[i]=true
 | [],[]=>by simp [eqEs]
 | [],_::_=>by simp [eqEs]
 |_::_,[]=>by simp [eqEs]
 |x::a,y::b=>by
  simp only [eqEs,Bool.and_eq_true,zcK (a:=a) (b:=b),List.length_cons]
  constructor
  ·rintro ⟨h1,h2,h3⟩
   refine ⟨by omega,fun i hi hj=>?_⟩
   cases i with
   |zero=>exact h1
   |succ i=>exact h3 i (by omega) (by omega)
  ·rintro ⟨h1,h2⟩
   exact ⟨h2 0 (by omega) (by omega),by omega,fun i hi hj=>h2 (i+1) (by omega) (by omega)⟩
theorem zgs:∀{k k':PK},eqPK k k'=true↔k.es.length=k'.es.length∧∀(i:Nat) (h:i<k.es.length) (h':i<k'.es.length) (g:i<k.ss.length) (g':i<k'.ss.length),zeu k.es[i] k'.es[i]=true∧ze2 k.ss[i] k'.ss[i]=true
 | .nil,.nil=>by simp [eqPK,PK.es]
 | .nil,.cons _ _ _=>by simp [eqPK,PK.es]
 | .cons _ _ _,.nil=>by simp [eqPK,PK.es]
 | .cons e s r,.cons e' s' r'=>by
  simp only [eqPK,Bool.and_eq_true,zgs (k:=r) (k':=r'),PK.es,PK.ss,List.length_cons]
  constructor
  ·rintro ⟨⟨h1,h2⟩,h3,h4⟩
   refine ⟨by omega,fun i hi hj gi gj=>?_⟩
   cases i with
   |zero=>exact ⟨h1,h2⟩
   |succ i=>exact h4 i (by omega) (by omega) (by omega) (by omega)
  ·rintro ⟨h1,h2⟩
   have h0:=h2 0 (by omega) (by omega) (by omega) (by omega)
   exact ⟨⟨h0.1,h0.2⟩,by omega,fun i hi hj gi gj=>h2 (i+1) (by omega) (by omega) (by omega) (by omega)⟩
theorem znX (A B:List EV)(bA:A.length≤4000000000000)(bB:B.length≤4000000000000)(hA:∀x∈A,GoodE x)(hB:∀x∈B,GoodE x):
  ACalls prog 154 [.c (.d (.pt [.sl tPE (A.map eD)])),.c (.d (.pt [.sl tPE (B.map eD)]))] (fun r=>r=aV (.bool (eqEs A B))):=by
 have cA:A.length≤9223372036854775807:=by omega
 have cB:B.length≤9223372036854775807:=by omega
 by_cases he:A.length=B.length
 ·have hei:(A.length:Int)=B.length:=by omega
  refine zg [(1,([],[(0,[]),(1,[]),(2,[]),(3,[]),(4,[]),(5,[]),(6,[]),(7,[]),(8,[]),(9,[]),(10,[])])),(6,([14],[(0,[]),(1,[]),(2,[]),(3,[]),(4,[]),(5,[]),(6,[]),(7,[]),(8,[]),(9,[]),(10,[]),(11,[]),(12,[]),(13,[]),(14,[]),(15,[])]))] func154 (by kernel_rfl) rfl ntmps154 results154 (Nat.le_of_ble_eq_true (by kernel_rfl)) ?_;intro hok w0 S0
  clear hok
  (repeat' (first|(with_reducible first|refine zl (fun _=>?_) (fun _=>?_)|refine zk (fun _=>?_) (fun _=>?_)|refine zm zd (by kernel_rfl) ?_|exact zc rfl)|(simp -dsimp [cA,cB,he])));(all_goals try with_reducible refine zc ?_)
  refine zJ (fun i:Nat=>⟨[(0,.c (.d (.pt [.sl tPE (A.map eD)]))),(1,.c (.d (.pt [.sl tPE (B.map eD)]))),(21,aI B.length),(22,aI i)],[]⟩) (fun i=>i≤B.length∧∀(j:Nat) (h:j<A.length) (h':j<B.length),j<i→zeu A[j] B[j]=true) (fun i=>B.length - i) 0 ?_ ⟨Nat.zero_le _,fun j _ _ h=>by omega⟩ ?_
  ·exact Weak.same (by simp -dsimp) (by simp -dsimp) (by first|rfl|(simp [zj,Av.ids,Ow.ids,Cl.ids,Go.Smd.keys];done))
  ·rintro i ⟨hi,hall⟩ K hK
   by_cases hlt2:i<B.length
   ·have hlt:i<A.length:=by omega
    have hw:IntKind.wrap .i64 ((i:Int)+1)=((i+1:Nat):Int):=by rw[zy]<;>omega
    have ga:=hA _ (List.getElem_mem hlt)
    have gb:=hB _ (List.getElem_mem hlt2)
    have c1:=zgl _ _ ga.f.le gb.f.le
    rw[zkj _ _ ga.f gb.f] at c1
    obtain ⟨a0,a1,a2,a3,ha,ha'⟩:=zby (z9 A[i])
    obtain ⟨b0,b1,b2,b3,hb',hb''⟩:=zby (z9 B[i])
    have ha:eD A[i]= [a0,a1,a2,a3]:=ha
    have hb':eD B[i]= [b0,b1,b2,b3]:=hb'
    rw[ha',hb''] at c1
    cases hq:zeu A[i] B[i] with
    |true=>
     rw[hq] at c1
     (repeat' (first|(with_reducible first|refine zl (fun _=>?_) (fun _=>?_)|refine zk (fun _=>?_) (fun _=>?_)|refine zt (c1) (by first|rfl|(simp -dsimp [cA,cB,hlt,hlt2,ha,hb',hw];done)) ?_|(refine Zu (c1) rfl ?_ ?_ ?_;iterate 2 exact by first|rfl|(simp -dsimp [cA,cB,hlt,hlt2,ha,hb',hw];done))|refine zm zd (by kernel_rfl) ?_|exact zc rfl)|(simp -dsimp [cA,cB,hlt,hlt2,ha,hb',hw])));(all_goals try with_reducible refine zc ?_)
     refine hK _ (i+1) ?_ ⟨by omega,fun j h1 h2 h3=>?_⟩ (by omega)
     ·exact Weak.same (by simp -dsimp) (by simp -dsimp) (by first|rfl|(simp [zj,Av.ids,Ow.ids,Cl.ids,Go.Smd.keys];done))
     ·by_cases e:j=i
      ·subst e;exact hq
      ·exact hall j h1 h2 (by omega)
    |false=>
     rw[hq] at c1
     have hf:eqEs A B=false:=by
      rw[←Bool.not_eq_true,zcK]
      rintro ⟨_,h⟩
      have:=h i hlt hlt2
      rw[hq] at this;cases this
     (repeat' (first|(with_reducible first|refine zl (fun _=>?_) (fun _=>?_)|refine zk (fun _=>?_) (fun _=>?_)|refine zt (c1) (by first|rfl|(simp -dsimp [cA,cB,hlt,hlt2,ha,hb',hw];done)) ?_|(refine Zu (c1) rfl ?_ ?_ ?_;iterate 2 exact by first|rfl|(simp -dsimp [cA,cB,hlt,hlt2,ha,hb',hw];done))|refine zm zd (by kernel_rfl) ?_|exact zc rfl)|(simp -dsimp [cA,cB,hlt,hlt2,ha,hb',hw])));(all_goals try with_reducible refine zc ?_)
     rw[hf]
   ·have ht:eqEs A B=true:=zcK.2 ⟨he,fun j h1 h2=>hall j h1 h2 (by omega)⟩
    (repeat' (first|(with_reducible first|refine zl (fun _=>?_) (fun _=>?_)|refine zk (fun _=>?_) (fun _=>?_)|refine zm zd (by kernel_rfl) ?_|exact zc rfl)|(simp -dsimp [hlt2])));(all_goals try with_reducible refine zc ?_)
    rw[ht]
 ·have hf:eqEs A B=false:=by
   rw[←Bool.not_eq_true,zcK]
   rintro ⟨h,_⟩
   exact he h
  have hei:¬(A.length:Int)=B.length:=by omega
  refine zg [(1,([],[(0,[]),(1,[]),(2,[]),(3,[]),(4,[]),(5,[]),(6,[]),(7,[]),(8,[]),(9,[]),(10,[])])),(6,([14],[(0,[]),(1,[]),(2,[]),(3,[]),(4,[]),(5,[]),(6,[]),(7,[]),(8,[]),(9,[]),(10,[]),(11,[]),(12,[]),(13,[]),(14,[]),(15,[])]))] func154 (by kernel_rfl) rfl ntmps154 results154 (Nat.le_of_ble_eq_true (by kernel_rfl)) ?_;intro hok w0 S0
  clear hok
  (repeat' (first|(with_reducible first|refine zl (fun _=>?_) (fun _=>?_)|refine zk (fun _=>?_) (fun _=>?_)|refine zm zd (by kernel_rfl) ?_|exact zc rfl)|(simp -dsimp [cA,cB,hei])));(all_goals try with_reducible refine zc ?_)
  rw[hf]
abbrev CEq (s t:PS):Prop:=ACalls prog 100 [.c (.d (.pt (psD s))),.c (.d (.pt (psD t)))] (fun r=>r=aV (.bool (ze2 s t)))
theorem zwR (k k':PK)(hb:k.es.length≤4000000000000)(hb':k'.es.length≤4000000000000)(gk:∀x∈k.es,GoodE x)(gk':∀x∈k'.es,GoodE x)(h:∀s∈k.ss,∀t∈k'.ss,CEq s t):
  ACalls prog 155 [.c (.d (.pt [.sl tSN (pkD k)])),.c (.d (.pt [.sl tSN (pkD k')]))] (fun r=>r=aV (.bool (eqPK k k'))):=by
 have hl:=zei k
 have hl2:=PK.ss_length k
 have hl':=zei k'
 have hl2':=PK.ss_length k'
 have cA:(pkD k).length≤9223372036854775807:=by omega
 have cB:(pkD k').length≤9223372036854775807:=by omega
 by_cases he:(pkD k).length=(pkD k').length
 ·refine zg [(1,([],[(0,[]),(1,[]),(2,[]),(3,[]),(4,[]),(5,[]),(6,[]),(7,[]),(8,[]),(9,[]),(10,[])])),(6,([16],[(0,[]),(1,[]),(2,[]),(3,[]),(4,[]),(5,[]),(6,[]),(7,[]),(8,[]),(9,[]),(10,[]),(11,[]),(12,[]),(13,[]),(14,[]),(15,[]),(16,[]),(17,[])])),(8,([16],[(0,[]),(1,[]),(2,[]),(3,[]),(4,[]),(5,[]),(6,[]),(7,[]),(8,[]),(9,[]),(10,[]),(11,[]),(12,[]),(13,[]),(14,[]),(15,[]),(16,[]),(17,[])]))] func155 (by kernel_rfl) rfl ntmps155 results155 (Nat.le_of_ble_eq_true (by kernel_rfl)) ?_;intro hok w0 S0
  clear hok
  (repeat' (first|(with_reducible first|refine zl (fun _=>?_) (fun _=>?_)|refine zk (fun _=>?_) (fun _=>?_)|refine zm zd (by kernel_rfl) ?_|exact zc rfl)|(simp -dsimp [cA,cB,he])));(all_goals try with_reducible refine zc ?_)
  refine zJ (fun i:Nat=>⟨[(0,.c (.d (.pt [.sl tSN (pkD k)]))),(1,.c (.d (.pt [.sl tSN (pkD k')]))),(21,aI (pkD k').length),(22,aI i)],[]⟩) (fun i=>i≤(pkD k').length∧∀(j:Nat) (h:j<k.es.length) (h':j<k'.es.length) (g:j<k.ss.length) (g':j<k'.ss.length),j<i→zeu k.es[j] k'.es[j]=true∧ze2 k.ss[j] k'.ss[j]=true) (fun i=>(pkD k').length - i) 0 ?_ ⟨Nat.zero_le _,fun j _ _ _ _ h=>by omega⟩ ?_
  ·exact Weak.same (by simp -dsimp) (by simp -dsimp) (by first|rfl|(simp [zj,Av.ids,Ow.ids,Cl.ids,Go.Smd.keys];done))
  ·rintro i ⟨hi,hall⟩ K hK
   by_cases hlt2:i<(pkD k').length
   ·have hlt:i<(pkD k).length:=by omega
    have hw:IntKind.wrap .i64 ((i:Int)+1)=((i+1:Nat):Int):=by rw[zy]<;>omega
    have i1:i<k.es.length:=by omega
    have i2:i<k'.es.length:=by omega
    have j1:i<k.ss.length:=by omega
    have j2:i<k'.ss.length:=by omega
    obtain ⟨a0,a1,a2,a3,X,Y,hn,ha,ha',hp,_,_⟩:=zfU k i hlt i1 j1
    obtain ⟨b0,b1,b2,b3,X',Y',hn',hb2,hb'',hp',_,_⟩:=zfU k' i hlt2 i2 j2
    have ga:=gk _ (List.getElem_mem i1)
    have gb:=gk' _ (List.getElem_mem i2)
    have c1:=zgl _ _ ga.f.le gb.f.le
    rw[zkj _ _ ga.f gb.f] at c1
    rw[ha',hb''] at c1
    have c2:=h _ (List.getElem_mem j1) _ (List.getElem_mem j2)
    unfold CEq at c2
    rw[hp,hp'] at c2
    have no:(zeu k.es[i] k'.es[i]=true→ze2 k.ss[i] k'.ss[i]=true→False)→eqPK k k'=false:=fun hno=>by
     rw[←Bool.not_eq_true,zgs]
     rintro ⟨_,hq⟩
     have:=hq i i1 i2 j1 j2
     exact hno this.1 this.2
    cases hq:zeu k.es[i] k'.es[i] with
    |true=>
     rw[hq] at c1
     cases hs:ze2 k.ss[i] k'.ss[i] with
     |true=>
      rw[hs] at c2
      (repeat' (first|(with_reducible first|refine zl (fun _=>?_) (fun _=>?_)|refine zk (fun _=>?_) (fun _=>?_)|refine zt (c1) (by first|rfl|(simp -dsimp [cA,cB,hlt,hlt2,hn,hn',hw];done)) ?_|(refine Zu (c1) rfl ?_ ?_ ?_;iterate 2 exact by first|rfl|(simp -dsimp [cA,cB,hlt,hlt2,hn,hn',hw];done))|refine zt (c2) (by first|rfl|(simp -dsimp [cA,cB,hlt,hlt2,hn,hn',hw];done)) ?_|(refine Zu (c2) rfl ?_ ?_ ?_;iterate 2 exact by first|rfl|(simp -dsimp [cA,cB,hlt,hlt2,hn,hn',hw];done))|refine zm zd (by kernel_rfl) ?_|exact zc rfl)|(simp -dsimp [cA,cB,hlt,hlt2,hn,hn',hw])));(all_goals try with_reducible refine zc ?_)
      refine hK _ (i+1) ?_ ⟨by omega,fun j h1 h2 h3 h4 h5=>?_⟩ (by omega)
      ·exact Weak.same (by simp -dsimp) (by simp -dsimp) (by first|rfl|(simp [zj,Av.ids,Ow.ids,Cl.ids,Go.Smd.keys];done))
      ·by_cases e:j=i
       ·subst e;exact ⟨hq,hs⟩
       ·exact hall j h1 h2 h3 h4 (by omega)
     |false=>
      rw[hs] at c2
      have hf:=no fun _ h2=>by rw[hs] at h2;cases h2
      (repeat' (first|(with_reducible first|refine zl (fun _=>?_) (fun _=>?_)|refine zk (fun _=>?_) (fun _=>?_)|refine zt (c1) (by first|rfl|(simp -dsimp [cA,cB,hlt,hlt2,hn,hn',hw];done)) ?_|(refine Zu (c1) rfl ?_ ?_ ?_;iterate 2 exact by first|rfl|(simp -dsimp [cA,cB,hlt,hlt2,hn,hn',hw];done))|refine zt (c2) (by first|rfl|(simp -dsimp [cA,cB,hlt,hlt2,hn,hn',hw];done)) ?_|(refine Zu (c2) rfl ?_ ?_ ?_;iterate 2 exact by first|rfl|(simp -dsimp [cA,cB,hlt,hlt2,hn,hn',hw];done))|refine zm zd (by kernel_rfl) ?_|exact zc rfl)|(simp -dsimp [cA,cB,hlt,hlt2,hn,hn',hw])));(all_goals try with_reducible refine zc ?_)
      rw[hf]
    |false=>
     rw[hq] at c1
     have hf:=no fun h1 _=>by rw[hq] at h1;cases h1
     (repeat' (first|(with_reducible first|refine zl (fun _=>?_) (fun _=>?_)|refine zk (fun _=>?_) (fun _=>?_)|refine zt (c1) (by first|rfl|(simp -dsimp [cA,cB,hlt,hlt2,hn,hn',hw];done)) ?_|(refine Zu (c1) rfl ?_ ?_ ?_;iterate 2 exact by first|rfl|(simp -dsimp [cA,cB,hlt,hlt2,hn,hn',hw];done))|refine zm zd (by kernel_rfl) ?_|exact zc rfl)|(simp -dsimp [cA,cB,hlt,hlt2,hn,hn',hw])));(all_goals try with_reducible refine zc ?_)
     rw[hf]
   ·have ht:eqPK k k'=true:=zgs.2 ⟨by omega,fun j h1 h2 h3 h4=>hall j h1 h2 h3 h4 (by omega)⟩
    (repeat' (first|(with_reducible first|refine zl (fun _=>?_) (fun _=>?_)|refine zk (fun _=>?_) (fun _=>?_)|refine zm zd (by kernel_rfl) ?_|exact zc rfl)|(simp -dsimp [hlt2])));(all_goals try with_reducible refine zc ?_)
    rw[ht]
 ·have hf:eqPK k k'=false:=by
   rw[←Bool.not_eq_true,zgs]
   rintro ⟨h,_⟩
   omega
  have hei:¬((pkD k).length:Int)=(pkD k').length:=by omega
  refine zg [(1,([],[(0,[]),(1,[]),(2,[]),(3,[]),(4,[]),(5,[]),(6,[]),(7,[]),(8,[]),(9,[]),(10,[])])),(6,([16],[(0,[]),(1,[]),(2,[]),(3,[]),(4,[]),(5,[]),(6,[]),(7,[]),(8,[]),(9,[]),(10,[]),(11,[]),(12,[]),(13,[]),(14,[]),(15,[]),(16,[]),(17,[])])),(8,([16],[(0,[]),(1,[]),(2,[]),(3,[]),(4,[]),(5,[]),(6,[]),(7,[]),(8,[]),(9,[]),(10,[]),(11,[]),(12,[]),(13,[]),(14,[]),(15,[]),(16,[]),(17,[])]))] func155 (by kernel_rfl) rfl ntmps155 results155 (Nat.le_of_ble_eq_true (by kernel_rfl)) ?_;intro hok w0 S0
  clear hok
  (repeat' (first|(with_reducible first|refine zl (fun _=>?_) (fun _=>?_)|refine zk (fun _=>?_) (fun _=>?_)|refine zm zd (by kernel_rfl) ?_|exact zc rfl)|(simp -dsimp [cA,cB,hei])));(all_goals try with_reducible refine zc ?_)
  rw[hf]
theorem zvy (N M:Nat)(hN:N≤3000000000000)(hM:M≤3000000000000)(ms ms':List EV)(ks ks':PK)(ok:OkS N (.mk ms ks))(ok':OkS M (.mk ms' ks'))(h:∀s∈ks.ss,∀t∈ks'.ss,CEq s t):CEq (.mk ms ks) (.mk ms' ks'):=by
 simp only [OkS] at ok ok'
 have c1:=ACalls.pre2 (ys:=[.sl tSN (pkD ks)]) (ys':=[.sl tSN (pkD ks')]) (znX ms ms' (by omega) (by omega) ok.1 ok'.1)
 have c2:=zwR ks ks' (by omega) (by omega) ok.2.2.2.1 ok'.2.2.2.1 h
 simp only [List.cons_append,List.nil_append] at c1
 unfold CEq
 rw[zgW,zgW]
 simp only [ze2]
 generalize ms.map eD=A at c1 ⊢
 generalize ms'.map eD=B at c1 ⊢
 cases h1:eqEs ms ms' with
 |true=>
  rw[h1] at c1
  generalize eqPK ks ks'=q at c2 ⊢
  refine zg [(1,([6,14],[(0,[]),(1,[]),(2,[]),(3,[]),(4,[]),(5,[]),(6,[]),(7,[]),(8,[]),(9,[]),(10,[]),(11,[]),(12,[]),(13,[]),(14,[]),(15,[]),(16,[])]))] func100 (by kernel_rfl) rfl ntmps100 results100 (Nat.le_of_ble_eq_true (by kernel_rfl)) ?_;intro hok w0 S0
  clear hok
  (repeat' (first|(with_reducible first|refine zl (fun _=>?_) (fun _=>?_)|refine zk (fun _=>?_) (fun _=>?_)|refine zt (c1) (by first|rfl|(simp -dsimp;done)) ?_|(refine Zu (c1) rfl ?_ ?_ ?_;iterate 2 exact by first|rfl|(simp -dsimp;done))|refine zt (c2) (by first|rfl|(simp -dsimp;done)) ?_|(refine Zu (c2) rfl ?_ ?_ ?_;iterate 2 exact by first|rfl|(simp -dsimp;done))|refine zm zd (by kernel_rfl) ?_|exact zc rfl)|(simp -dsimp)));(all_goals try with_reducible refine zc ?_)
 |false=>
  rw[h1] at c1
  refine zg [(1,([6,14],[(0,[]),(1,[]),(2,[]),(3,[]),(4,[]),(5,[]),(6,[]),(7,[]),(8,[]),(9,[]),(10,[]),(11,[]),(12,[]),(13,[]),(14,[]),(15,[]),(16,[])]))] func100 (by kernel_rfl) rfl ntmps100 results100 (Nat.le_of_ble_eq_true (by kernel_rfl)) ?_;intro hok w0 S0
  clear hok
  (repeat' (first|(with_reducible first|refine zl (fun _=>?_) (fun _=>?_)|refine zk (fun _=>?_) (fun _=>?_)|refine zt (c1) (by first|rfl|(simp -dsimp;done)) ?_|(refine Zu (c1) rfl ?_ ?_ ?_;iterate 2 exact by first|rfl|(simp -dsimp;done))|refine zm zd (by kernel_rfl) ?_|exact zc rfl)|(simp -dsimp)));(all_goals try with_reducible refine zc ?_)
theorem zvz (N M:Nat)(hN:N≤3000000000000)(hM:M≤3000000000000):∀s:PS,OkS N s→∀t:PS,OkS M t→CEq s t:=
 ziY fun ms ks ih ok t ok'=>by
  obtain ⟨ms',ks'⟩:=t
  refine zvy N M hN hM ms ms' ks ks' ok ok' fun s hs t ht=>ih s hs ?_ t ?_
  ·simp only [OkS] at ok;exact ok.2.2.2.2.2.2.all s hs
  ·simp only [OkS] at ok';exact ok'.2.2.2.2.2.2.all t ht
@[simp ↓] theorem zyI {σ:St}{d:Option Tmp}{T:TypeId}{n:Nat}{xs:Array (Nat×Operand)}{ty:TypeId}{pos:String}{af:Array Edge}{g:Option (Nat×Bool)}:zhu σ ⟨d,.buildSlice T n xs,ty,pos,af,g⟩=none:=_root_.id rfl
end Go.Smd
end
