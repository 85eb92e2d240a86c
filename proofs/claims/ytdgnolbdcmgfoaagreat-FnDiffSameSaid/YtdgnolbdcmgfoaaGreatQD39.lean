/- Part 39. -/
import Derived.Test.YtdgnolbdcmgfoaaGreatQD38
import Derived.Test.YtdgnolbdcmgfoaaGreatQD33
set_option linter.unusedVariables false
set_option linter.unusedSimpArgs false
set_option maxRecDepth 100000
set_option maxHeartbeats 8000000
section
namespace Go.Smd
open Go.RowKit Go.Proofs Go.Proofs.Tryz
def zah (e:EV)(l:List EV):Bool:=l.any fun x=>decide (zw x e=0)
theorem zbN {e:EV}{l:List EV}:zah e l=true↔∃x∈l,zw x e=0:=by simp [zah]
theorem zko {e f:EV}{l:List EV}(he:OE e)(hf:OE f)(hl:∀x∈l,OE x)(h:zw e f=0):zah e l=zah f l:=by
 rw[Bool.eq_iff_iff,zbN,zbN]
 have h':zw f e=0:=by have:=zo.anti e f he hf;omega
 exact ⟨fun ⟨x,hx,h0⟩=>⟨x,hx,zo.eq_trans (hl x hx) he hf h0 h⟩,fun ⟨x,hx,h0⟩=>⟨x,hx,zo.eq_trans (hl x hx) hf he h0 h'⟩⟩
def Zp (e:EV):PK→Option PS
 | .nil=>none
 | .cons x s r=>if zw x e=0 then some s else Zp e r
theorem zej {e:EV}:∀{k:PK},Zp e k=none↔zah e k.es=false
 | .nil=>by simp [Zp,PK.es,zah]
 | .cons x s r=>by
  have ih:=zej (e:=e) (k:=r)
  simp only [Zp,PK.es]
  by_cases h:zw x e=0
  ·simp [h,zah]
  ·rw[if_neg h,ih];simp [h,zah]
theorem zdN {e:EV}:∀{k:PK} {s:PS},Zp e k=some s→s∈k.ss
 | .nil,s,h=>by simp [Zp] at h
 | .cons x t r,s,h=>by
  simp only [Zp] at h
  simp only [PK.ss]
  split at h
  ·cases h;exact List.mem_cons_self ..
  ·exact List.mem_cons_of_mem _ (zdN h)
theorem ziO {e f:EV}(he:OE e)(hf:OE f)(h:zw e f=0):∀{k:PK},(∀x∈k.es,OE x)→Zp e k=Zp f k
 | .nil,_=>rfl
 | .cons x s r,hk=>by
  have hx:OE x:=hk x (by simp [PK.es])
  have h':zw f e=0:=by have:=zo.anti e f he hf;omega
  have ih:=ziO he hf h (k:=r) fun y hy=>hk y (by simp [PK.es,hy])
  have:zw x e=0↔zw x f=0:=⟨fun h0=>zo.eq_trans hx he hf h0 h,fun h0=>zo.eq_trans hx hf he h0 h'⟩
  simp only [Zp,this,ih]
theorem zsp {e x:EV}{r:PK}(he:OE e)(hx:OE x)(h:zw x e=0)(hr:∀y∈r.es,OE y)(hs:∀y∈r.es,zw x y<0):Zp e r=none:=by
 rw[zej,←Bool.not_eq_true,zbN]
 rintro ⟨y,hy,h0⟩
 have k1:=hs y hy
 have h':zw e x=0:=by have:=zo.anti x e hx he;omega
 have h2:=zo.eq_trans (hr y hy) he hx h0 h'
 have:=zo.anti x y hx (hr y hy)
 omega
theorem zkp {e:EV}(he:OE e):∀{k:PK},(∀x∈k.es,OE x)→zaQ k.es→ZW e k=(Zp e k).getD .empty
 | .nil,_,_=>rfl
 | .cons x s r,hk,hs=>by
  simp only [PK.es] at hs
  have hs:=List.pairwise_cons.1 hs
  have hx:OE x:=hk x (by simp [PK.es])
  have hr:∀y∈r.es,OE y:=fun y hy=>hk y (by simp [PK.es,hy])
  simp only [ZW,Zp]
  by_cases h0:zw x e=0
  ·rw[if_neg (by omega),if_pos h0,if_pos h0];rfl
  ·rw[if_neg h0,if_neg h0]
   by_cases h1:zw x e<0
   ·rw[if_pos h1];exact zkp he hr hs.2
   ·rw[if_neg h1]
    have:Zp e r=none:=by
     rw[zej,←Bool.not_eq_true,zbN]
     rintro ⟨y,hy,h2⟩
     have k1:=hs.1 y hy
     have k2:=zo.anti x e hx he
     have:=zo.lt_le hx (hr y hy) he k1 (by omega)
     omega
    rw[this];rfl
theorem zkq:∀q:List EV,PS.empty.has q=false
 | []=>by simp [PS.has]
 | [e]=>by simp [PS.empty,PS.has]
 |e::f::q=>by
  have:=zkq (f::q)
  simpa [PS.empty,PS.has,ZW] using this
theorem zhr (s:PS)(e:EV):s.has [e]=zah e s.ms:=by cases s;simp only [PS.has,PS.ms,zah]
theorem zhs {N:Nat}{s:PS}(ok:OkS N s){e:EV}(he:OE e)(f:EV)(p:List EV):s.has (e::f::p)=match Zp e s.ks with|none=>false|some t=>t.has (f::p):=by
 obtain ⟨ms,ks⟩:=s
 simp only [OkS] at ok
 simp only [PS.has,PS.ks]
 rw[zkp he (fun x hx=>(ok.2.2.2.1 x hx).o) ok.2.2.2.2.1]
 cases Zp e ks with
 |none=>exact zkq _
 |some t=>rfl
def zdc (g:EV→PS→Option PS):PK→PK
 | .nil=>.nil
 | .cons e s r=>match g e s with
  |none=>zdc g r
  |some s'=>.cons e s' (zdc g r)
theorem zoC (g:EV→PS→Option PS):∀k:PK,(zdc g k).es.Sublist k.es
 | .nil=>List.Sublist.refl _
 | .cons e s r=>by
  have ih:=zoC g r
  simp only [zdc,PK.es]
  split
  ·exact ih.cons _
  ·simp only [PK.es];exact ih.cons_cons _
theorem zoD {N:Nat}(g:EV→PS→Option PS):∀{k:PK},(∀e s s',s∈k.ss→g e s=some s'→OkS N s')→OkK N (zdc g k)
 | .nil,_=>by simp only [zdc,OkK]
 | .cons e s r,h=>by
  have ih:=zoD g (k:=r) fun e s s' hs=>h e s s' (by simp [PK.ss,hs])
  simp only [zdc]
  split
  ·exact ih
  ·next s' hg=>simp only [OkK];exact ⟨h e s s' (by simp [PK.ss]) hg,ih⟩
theorem zkr (g:EV→PS→Option PS):∀{k:PK},(∀e s s',s∈k.ss→g e s=some s'→s'.size≠0∧s'.full)→(zdc g k).full
 | .nil,_=>by simp only [zdc,PK.full]
 | .cons e s r,h=>by
  have ih:=zkr g (k:=r) fun e s s' hs=>h e s s' (by simp [PK.ss,hs])
  simp only [zdc]
  split
  ·exact ih
  ·next s' hg=>
   have:=h e s s' (by simp [PK.ss]) hg
   simp only [PK.full];exact ⟨this.1,this.2,ih⟩
theorem ziP (g:EV→PS→Option PS):∀{k:PK},(∀e s s',s∈k.ss→g e s=some s'→s'.depth≤s.depth)→(zdc g k).depth≤k.depth
 | .nil,_=>by simp only [zdc];omega
 | .cons e s r,h=>by
  have ih:=ziP g (k:=r) fun e s s' hs=>h e s s' (by simp [PK.ss,hs])
  simp only [zdc]
  split
  ·simp only [PK.depth];omega
  ·next s' hg=>
   have:=h e s s' (by simp [PK.ss]) hg
   simp only [PK.depth];omega
theorem zks (g:EV→PS→Option PS):∀{k:PK},(∀e s s',s∈k.ss→g e s=some s'→s'.size≤s.size)→(zdc g k).size≤k.size
 | .nil,_=>by simp only [zdc];omega
 | .cons e s r,h=>by
  have ih:=zks g (k:=r) fun e s s' hs=>h e s s' (by simp [PK.ss,hs])
  simp only [zdc]
  split
  ·simp only [PK.size];omega
  ·next s' hg=>
   have:=h e s s' (by simp [PK.ss]) hg
   simp only [PK.size];omega
theorem zkt (g:EV→PS→Option PS){e:EV}(he:OE e)(hg:∀x s,OE x→zw x e=0→g x s=g e s):∀{k:PK},(∀x∈k.es,OE x)→zaQ k.es→Zp e (zdc g k)=(Zp e k).bind (g e)
 | .nil,_,_=>rfl
 | .cons x s r,hk,hs=>by
  simp only [PK.es] at hs
  have hs:=List.pairwise_cons.1 hs
  have hx:OE x:=hk x (by simp [PK.es])
  have hr:∀y∈r.es,OE y:=fun y hy=>hk y (by simp [PK.es,hy])
  have ih:=zkt g he hg hr hs.2
  simp only [zdc,Zp]
  by_cases h0:zw x e=0
  ·rw[if_pos h0,hg x s hx h0]
   have hn:=zsp he hx h0 hr hs.1
   rw[hn] at ih
   cases hge:g e s with
   |none=>simp only [ih,Option.bind_some,Option.bind_none,hge]
   |some s'=>simp only [Zp,if_pos h0,Option.bind_some,hge]
  ·rw[if_neg h0]
   cases g x s with
   |none=>exact ih
   |some s'=>simp only [Zp,if_neg h0];exact ih
theorem znQ {ms:List EV}{e:EV}(p:EV→Bool)(he:OE e)(hm:∀x∈ms,OE x)(hp:∀x,OE x→zw x e=0→p x=p e):zah e (ms.filter p)=(zah e ms && p e):=by
 rw[Bool.eq_iff_iff,Bool.and_eq_true,zbN,zbN]
 constructor
 ·rintro ⟨x,hx,h0⟩
  have hx:=List.mem_filter.1 hx
  exact ⟨⟨x,hx.1,h0⟩,by rw[←hp x (hm x hx.1) h0];exact hx.2⟩
 ·rintro ⟨⟨x,hx,h0⟩,hpe⟩
  exact ⟨x,List.mem_filter.2 ⟨hx,by rw[hp x (hm x hx) h0];exact hpe⟩,h0⟩
theorem zv3 {N:Nat}{ms ms':List EV}{ks:PK}{ks':PK}(ok:OkS N (.mk ms ks))(hm:ms'.Sublist ms)(hk:ks'.es.Sublist ks.es)(h:OkK N ks'):OkS N (.mk ms' ks'):=by
 simp only [OkS] at ok ⊢
 exact ⟨fun e he=>ok.1 e (hm.subset he),ok.2.1.sublist hm,Nat.le_trans hm.length_le ok.2.2.1,fun e he=>ok.2.2.2.1 e (hk.subset he),ok.2.2.2.2.1.sublist hk,Nat.le_trans hk.length_le ok.2.2.2.2.2.1,h⟩
structure SOp where
 mem:Bool→Bool
 cut:Bool
 left:Bool
def oRd:SOp:=⟨not,true,true⟩
def zfA (cut left:Bool)(s:PS)(d:Option PS):Option PS:=bif cut then none else match d with
 |none=>bif left then some s else none
 |some d=>bif d.none then none else some d
mutual
def opS (o:SOp):PS→PS→PS
 | .mk ms ks,t=>.mk (ms.filter fun e=>o.mem (zah e t.ms)) (opK o ks t)
def opK (o:SOp):PK→PS→PK
 | .nil,_=>.nil
 | .cons e s r,t=>match zfA (o.cut && zah e t.ms) o.left s ((Zp e t.ks).map fun s'=>opS o s s') with
  |none=>opK o r t
  |some s'=>.cons e s' (opK o r t)
end
def opG (o:SOp)(t:PS)(e:EV)(s:PS):Option PS:=zfA (o.cut && zah e t.ms) o.left s ((Zp e t.ks).map fun s'=>opS o s s')
theorem zgb (o:SOp)(t:PS):∀k:PK,opK o k t=zdc (opG o t) k
 | .nil=>by simp only [opK,zdc]
 | .cons e s r=>by simp only [opK,zdc,opG,zgb o t r]
theorem zsq (o:SOp)(t:PS)(e:EV)(s:PS)(r:PK):opK o (.cons e s r) t=match opG o t e s with|none=>opK o r t|some s'=>.cons e s' (opK o r t):=by
 rw[zgb,zdc,←zgb]
theorem zmE {s:PS}(h:s.none=true)(q:List EV):s.has q=false:=by
 rw[Bool.eq_false_iff]
 intro hq
 exact ziM q hq ((PS.none_iff s).1 h)
theorem zoE {N:Nat}(o:SOp):∀s:PS,OkS N s→∀t:PS,OkS N (opS o s t)∧(opS o s t).depth≤s.depth∧(opS o s t).size≤s.size∧(s.full→(opS o s t).full):=
 zgG fun ms ks ih ok t=>by
  have ok0:=ok
  simp only [OkS] at ok
  have hk:∀e s s',s∈ks.ss→opG o t e s=some s'→OkS N s'∧s'.depth≤s.depth∧s'.size≤s.size∧(s.full→s'.full)∧(s.size≠0→s'.size≠0):=fun e s s' hs hg=>by
   have oks:=ok.2.2.2.2.2.2.all s hs
   unfold opG zfA at hg
   cases hc:(o.cut && zah e t.ms) with
   |true=>rw[hc] at hg;cases hg
   |false=>
    rw[hc] at hg
    cases hf:Zp e t.ks with
    |none=>
     rw[hf] at hg
     cases hl:o.left with
     |true=>simp [hl] at hg;subst hg;exact ⟨oks,Nat.le_refl _,Nat.le_refl _,fun h=>h,fun h=>h⟩
     |false=>simp [hl] at hg
    |some u=>
     rw[hf] at hg
     cases hn:(opS o s u).none with
     |true=>simp [hn] at hg
     |false=>
      simp [hn] at hg
      subst hg
      have:=ih s hs oks u
      exact ⟨this.1,this.2.1,this.2.2.1,this.2.2.2,fun _ h0=>by rw[(PS.none_iff _).2 h0] at hn;cases hn⟩
  simp only [opS,zgb]
  refine ⟨zv3 ok0 List.filter_sublist (zoC _ _) (zoD _ fun e s s' hs hg=>(hk e s s' hs hg).1),?_,?_,fun hf=>?_⟩
  ·have:=ziP (opG o t) (k:=ks) fun e s s' hs hg=>(hk e s s' hs hg).2.1
   simp only [PS.depth];omega
  ·have:=zks (opG o t) (k:=ks) fun e s s' hs hg=>(hk e s s' hs hg).2.2.1
   have h2:=List.length_filter_le (fun e=>o.mem (zah e t.ms)) ms
   simp only [PS.size];omega
  ·simp only [PS.full] at hf ⊢
   refine zkr _ fun e s s' hs hg=>?_
   have h1:=PK.full_all hf s hs
   have h2:=hk e s s' hs hg
   exact ⟨h2.2.2.2.2 h1.1,h2.2.2.2.1 h1.2⟩
def znR (o:SOp):PS→List EV→Bool
 |_,[]=>false
 | .mk ms _,[e]=>o.mem (zah e ms)
 | .mk ms ks,e::f::q=>bif (o.cut && zah e ms) then false else match Zp e ks with|none=>o.left|some t=>znR o t (f::q)
theorem zsr {N M:Nat}(o:SOp):∀(q:List EV),q≠ []→(∀e∈q,OE e)→∀{s t:PS},OkS N s→OkS M t→(opS o s t).has q=(s.has q && znR o t q)
 | [],h,_,_,_,_,_=>absurd rfl h
 | [e],_,ho,s,t,ok,ok'=>by
  have he:=ho e (by simp)
  rw[zhr,zhr]
  obtain ⟨ms,ks⟩:=s
  obtain ⟨ms',ks'⟩:=t
  simp only [OkS] at ok ok'
  simp only [opS,PS.ms,znR]
  exact znQ _ he (fun x hx=>(ok.1 x hx).o) fun x hx h0=>by rw[zko hx he (fun y hy=>(ok'.1 y hy).o) h0]
 |e::f::p,_,ho,s,t,ok,ok'=>by
  have he:=ho e (by simp)
  rw[zhs (zoE o s ok t).1 he,zhs ok he]
  obtain ⟨ms,ks⟩:=s
  simp only [OkS] at ok
  obtain ⟨ms',ks'⟩:=t
  simp only [OkS] at ok'
  have hfind:Zp e (opS o (.mk ms ks) (.mk ms' ks')).ks=(Zp e ks).bind (opG o (.mk ms' ks') e):=by
   simp only [opS,PS.ks,zgb]
   refine zkt _ he (fun x s hx h0=>?_) (fun x hx=>(ok.2.2.2.1 x hx).o) ok.2.2.2.2.1
   simp only [opG,PS.ms,PS.ks]
   rw[zko hx he (fun y hy=>(ok'.1 y hy).o) h0,ziO hx he h0 fun y hy=>(ok'.2.2.2.1 y hy).o]
  rw[hfind]
  simp only [PS.ks]
  cases hk:Zp e ks with
  |none=>simp
  |some s0=>
   have hs0:=ok.2.2.2.2.2.2.all s0 (zdN hk)
   simp only [Option.bind_some,opG,PS.ms,PS.ks,znR,zfA]
   cases hm:(o.cut && zah e ms') with
   |true=>simp
   |false=>
    cases ht:Zp e ks' with
    |none=>cases o.left<;>simp
    |some t0=>
     have ht0:=ok'.2.2.2.2.2.2.all t0 (zdN ht)
     have ih:=zsr o (f::p) (by simp) (fun x hx=>ho x (List.mem_cons_of_mem _ hx)) hs0 ht0
     cases hn:(opS o s0 t0).none with
     |true=>
      have:=zmE hn (f::p)
      rw[ih] at this
      simp [hn,this]
     |false=>simp [hn,ih]
def zds:PS→List EV→Bool
 |_,[]=>false
 | .mk ms ks,e::q=>zah e ms||match Zp e ks with|none=>false|some t=>zds t q
theorem zg9 (t:PS)(e:EV)(q:List EV):zds t (e::q)=(zah e t.ms||match Zp e t.ks with|none=>false|some t'=>zds t' q):=by cases t;simp only [zds,PS.ms,PS.ks]
theorem zss:∀(q:List EV),q≠ []→∀t:PS,znR oRd t q= !zds t q
 | [],h,_=>absurd rfl h
 | [e],_,.mk ms ks=>by
  simp only [znR,oRd,zds]
  cases Zp e ks with
  |none=>simp
  |some t'=>simp [zds]
 |e::f::q,_,.mk ms ks=>by
  have ih:=zss (f::q) (by simp)
  rw[zg9]
  simp only [znR,oRd,PS.ms,PS.ks,Bool.true_and]
  cases zah e ms with
  |true=>simp
  |false=>
   cases Zp e ks with
   |none=>simp
   |some t'=>simpa [oRd] using ih t'
theorem zgI {M:Nat}:∀(q:List EV),(∀e∈q,OE e)→∀{t:PS},OkS M t→(zds t q=true↔∃n,1≤n∧n≤q.length∧t.has (q.take n)=true)
 | [],_,t,_=>by simp only [zds,List.length_nil];constructor<;>intro h;cases h;obtain ⟨n,h1,h2,_⟩:=h;omega
 |e::q,ho,t,ok=>by
  have he:=ho e (by simp)
  have hq:∀x∈q,OE x:=fun x hx=>ho x (List.mem_cons_of_mem _ hx)
  rw[zg9,Bool.or_eq_true]
  have okt:=ok
  constructor
  ·rintro (h|h)
   ·exact ⟨1,Nat.le_refl _,by simp,by simp only [List.take_succ_cons,List.take_zero];rw[zhr];exact h⟩
   ·cases hk:Zp e t.ks with
    |none=>rw[hk] at h;cases h
    |some t'=>
     rw[hk] at h
     have ok':OkS M t':=by
      obtain ⟨ms,ks⟩:=t
      simp only [OkS] at ok
      exact ok.2.2.2.2.2.2.all t' (zdN hk)
     obtain ⟨n,h1,h2,h3⟩:=(zgI q hq ok').1 h
     refine ⟨n+1,by omega,by simp;omega,?_⟩
     obtain ⟨f,p,rfl⟩:∃f p,q=f::p:=by cases q with|nil=>simp at h2;omega|cons f p=>exact ⟨f,p,rfl⟩
     obtain ⟨m,rfl⟩:∃m,n=m+1:=⟨n - 1,by omega⟩
     simp only [List.take_succ_cons] at h3 ⊢
     rw[zhs okt he,hk];exact h3
  ·rintro ⟨n,h1,h2,h3⟩
   obtain ⟨m,rfl⟩:∃m,n=m+1:=⟨n - 1,by omega⟩
   rw[List.take_succ_cons] at h3
   cases m with
   |zero=>rw[List.take_zero,zhr] at h3;exact .inl h3
   |succ m=>
    obtain ⟨f,p,rfl⟩:∃f p,q=f::p:=by cases q with|nil=>simp at h2|cons f p=>exact ⟨f,p,rfl⟩
    rw[List.take_succ_cons,zhs okt he] at h3
    right
    cases hk:Zp e t.ks with
    |none=>rw[hk] at h3;cases h3
    |some t'=>
     rw[hk] at h3
     have ok':OkS M t':=by
      obtain ⟨ms,ks⟩:=t
      simp only [OkS] at ok
      exact ok.2.2.2.2.2.2.all t' (zdN hk)
     exact (zgI (f::p) hq ok').2 ⟨m+1,by omega,by simp at h2 ⊢;omega,by rw[List.take_succ_cons];exact h3⟩
theorem zku (e x:EV)(l:List EV):zah e (x::l)=(decide (zw x e=0)||zah e l):=by simp [zah]
theorem zug {e:EV}(he:OE e){l:List EV}(h:∀y∈l,OE y∧zw e y<0):zah e l=false:=by
 rw[←Bool.not_eq_true,zbN]
 rintro ⟨y,hy,h0⟩
 have:=h y hy
 have:=zo.anti e y he this.1
 omega
theorem zmF {x y:EV}{a b:List EV}(gA:∀e∈x::a,GoodE e)(gB:∀e∈y::b,GoodE e)(sA:zaQ (x::a))(sB:zaQ (y::b)):
  (zw x y<0→zah x (y::b)=false)∧(zw y x<0→∀z∈x::a,zah z (y::b)=zah z b)∧(zw x y=0→zah x (y::b)=true∧∀z∈a,zah z (y::b)=zah z b):=by
 have sA:=List.pairwise_cons.1 sA
 have sB:=List.pairwise_cons.1 sB
 have hx:=(gA x (by simp)).o
 have hy:=(gB y (by simp)).o
 refine ⟨fun h=>zug hx fun z hz=>?_,fun h z hz=>?_,fun h=>⟨?_,fun z hz=>?_⟩⟩
 ·have oz:=(gB z hz).o
  refine ⟨oz,?_⟩
  rcases List.mem_cons.1 hz with rfl|hz
  ·exact h
  ·exact zo.lt_le hx hy oz h (Int.le_of_lt (sB.1 z hz))
 ·have oz:=(gA z hz).o
  rw[zku]
  have:zw y z<0:=by
   rcases List.mem_cons.1 hz with rfl|hz
   ·exact h
   ·exact zo.lt_le hy hx oz h (Int.le_of_lt (sA.1 z hz))
  rw[decide_eq_false (by omega),Bool.false_or]
 ·rw[zbN];exact ⟨y,by simp,by have:=zo.anti x y hx hy;omega⟩
 ·have oz:=(gA z (by simp [hz])).o
  rw[zku]
  have:zw y z<0:=zo.le_lt hy hx oz (by have:=zo.anti x y hx hy;omega) (sA.1 z hz)
  rw[decide_eq_false (by omega),Bool.false_or]
theorem zmG:∀(n:Nat) (A B:List EV),A.length+B.length=n→(∀e∈A,GoodE e)→(∀e∈B,GoodE e)→zaQ A→zaQ B→zgE (A.map zX) (B.map zX)=(A.filter fun e=> !zah e B).map zX:=fun n=>by
 induction n using Nat.strongRecOn with
 |ind n ih=>
  intro A B hn gA gB sA sB
  match A,B with
  | [],B=>simp [zos]
  |A,[]=>
   rw[List.map_nil,zor]
   congr 1
   exact (List.filter_eq_self.2 fun e _=>by simp [zah]).symm
  |x::a,y::b=>
   obtain ⟨f1,f2,f3⟩:=zmF gA gB sA sB
   have sA':=List.pairwise_cons.1 sA
   have sB':=List.pairwise_cons.1 sB
   have gx:=gA x (by simp)
   have gy:=gB y (by simp)
   have ga:∀e∈a,GoodE e:=fun e he=>gA e (by simp [he])
   have gb:∀e∈b,GoodE e:=fun e he=>gB e (by simp [he])
   have hn':a.length+b.length+2=n:=by simp at hn;omega
   have anti:=zo.anti x y gx.o gy.o
   rw[List.map_cons,List.map_cons,zgE,zaP _ _ gx.f gy.f,zaP _ _ gy.f gx.f]
   by_cases h1:zw x y<0
   ·rw[if_pos h1,←List.map_cons,ih (a.length+(y::b).length) (by simp;omega) a (y::b) rfl ga gB sA'.2 sB,List.filter_cons_of_pos (by rw[f1 h1];rfl)]
    rfl
   ·rw[if_neg h1]
    by_cases h2:zw y x<0
    ·rw[if_pos h2,←List.map_cons,ih ((x::a).length+b.length) (by simp;omega) (x::a) b rfl gA gb sA sB'.2]
     congr 1
     exact List.filter_congr fun z hz=>by rw[f2 h2 z hz]
    ·rw[if_neg h2,ih (a.length+b.length) (by omega) a b rfl ga gb sA'.2 sB'.2]
     obtain ⟨k1,k2⟩:=f3 (by omega)
     rw[List.filter_cons_of_neg (by rw[k1];simp)]
     congr 1
     exact List.filter_congr fun z hz=>by rw[k2 z hz]
end Go.Smd
end
