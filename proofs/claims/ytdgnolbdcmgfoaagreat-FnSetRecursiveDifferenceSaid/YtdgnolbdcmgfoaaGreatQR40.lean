/- Part 40 of the proof: La Lc Ld. -/
import Derived.Test.YtdgnolbdcmgfoaaGreatQR39
import Derived.Test.YtdgnolbdcmgfoaaGreatQR34
set_option linter.unusedVariables false
set_option linter.unusedSimpArgs false
set_option maxRecDepth 100000
set_option maxHeartbeats 8000000
section
namespace Go.Smd
open Go.RowKit Go.Proofs Go.Proofs.Tryz
theorem ztr (a b:EV):zt (cE a) b=zt a b:=by
 rw[←zji (cE a),cE,zuY,zji]
theorem zvT {x:GV}(h:OG x):OG (zK (zx x)):=by
 show zU (zw (zK (zx x)))=true
 rw[zby,zcy];exact h
theorem zoH:Zl (zx zGV):=by
 have e:zx zGV= .nil:=by simp [zGV,zx]
 rw[e];constructor
theorem zfv {e:EV}(h:GoodE e):GoodE (cE e):=by
 refine ⟨ztq h.s,?_,?_⟩
 ·show FitsE (z8 (zR e))
  unfold zR
  split
  ·refine ⟨fun x hx=>?_,zoH⟩
   simp only [z8,zfr,List.map_map,List.mem_map] at hx
   obtain ⟨p,hp,rfl⟩:=hx
   exact zfu _ (h.f.zip p hp)
  ·split
   ·exact ⟨fun x hx=>by simp [z8] at hx,zfu _ h.f.val⟩
   ·split
    ·exact ⟨fun x hx=>by simp [z8] at hx,zoH⟩
    ·exact ⟨fun x hx=>by simp [z8] at hx,zoH⟩
 ·show OE (z8 (zR e))
  unfold zR
  split
  ·next h1=>
   have hr:rkE e.k=1:=by rw[h1];rfl
   refine ⟨fun _ p hp=>?_,fun h2=>by simp [z8,rkE] at h2⟩
   have hp2:=(List.of_mem_zip hp).2
   simp only [z8,zfr,List.map_map,List.mem_map] at hp2
   obtain ⟨q,hq,hq2⟩:=hp2
   rw[←hq2]
   exact zvT (h.o.key hr q hq)
  ·split
   ·next h2=>
    have hr:rkE e.k=2:=by rw[h2];rfl
    exact ⟨fun h1=>by simp [z8,rkE] at h1,fun _=>zvT (h.o.val hr)⟩
   ·split
    ·exact ⟨fun h1=>by simp [z8,rkE] at h1,fun h2=>by simp [z8,rkE] at h2⟩
    ·exact ⟨fun h1=>by simp [z8,rkE] at h1,fun h2=>by simp [z8,rkE] at h2⟩
theorem zgH:∀p  q:List EV,Zf (p.map cE) q=Zf p q
 | [],[]=>rfl
 | [],_::_=>rfl
 |_::_,[]=>rfl
 |a::u,b::z=>by
  have ih:=zgH u z
  simp only [List.map_cons,Zf,ztr,ih,List.isEmpty_map]
mutual
theorem PS.list_good {N:Nat}:∀{s:PS},OkS N s→∀w∈s.list,w≠ []∧∀e∈w,GoodE e
 | .mk ms ks,ok,w,hw=>by
  simp only [OkS] at ok
  simp only [PS.list] at hw
  rcases List.mem_append.1 hw with hw|hw
  ·obtain ⟨e,he,rfl⟩:=List.mem_map.1 hw
   exact ⟨by simp,fun x hx=>by rw[List.mem_singleton.1 hx];exact ok.1 e he⟩
  ·obtain ⟨e,q,rfl,he,_,hq⟩:=PK.list_good ok.2.2.2.2.2.2 ok.2.2.2.1 w hw
   exact ⟨by simp,fun x hx=>by
    rcases List.mem_cons.1 hx with rfl|hx
    ·exact ok.2.2.2.1 x he
    ·exact hq x hx⟩
theorem PK.list_good {N:Nat}:∀{k:PK},OkK N k→(∀e∈k.es,GoodE e)→∀w∈k.list,∃e q,w=e::q∧e∈k.es∧q≠ []∧∀x∈q,GoodE x
 | .nil,_,_,w,hw=>by simp [PK.list] at hw
 | .cons e s r,ok,hg,w,hw=>by
  simp only [OkK] at ok
  simp only [PK.list] at hw
  rcases List.mem_append.1 hw with hw|hw
  ·obtain ⟨q,hq,rfl⟩:=List.mem_map.1 hw
   have:=PS.list_good ok.1 q hq
   exact ⟨e,q,rfl,by simp [PK.es],this.1,this.2⟩
  ·obtain ⟨x,q,h1,h2,h3⟩:=PK.list_good ok.2 (fun x hx=>hg x (by simp [PK.es,hx])) w hw
   exact ⟨x,q,h1,by simp [PK.es,h2],h3⟩
end
theorem zqU {e:EV}(he:OE e)(p q:List EV):Zf (e::p) (e::q)=Zf p q:=by
 rw[Zf,if_pos (zo.refl he)]
theorem zvj {e f:EV}(h:zt e f<0){p q:List EV}(hp:p≠ [])(hq:q≠ []):Zf (e::p) (f::q)<0:=by
 have h1:p.isEmpty=false:=by cases p with|nil=>exact absurd rfl hp|cons _ _=>rfl
 have h2:q.isEmpty=false:=by cases q with|nil=>exact absurd rfl hq|cons _ _=>rfl
 rw[Zf,if_neg (by omega),h1,h2,if_pos rfl];exact h
theorem znq (e f:EV){q:List EV}(hq:q≠ []):Zf [e] (f::q)<0:=by
 have h2:q.isEmpty=false:=by cases q with|nil=>exact absurd rfl hq|cons _ _=>rfl
 rw[Zf,h2]
 split
 ·cases q with
  |nil=>exact absurd rfl hq
  |cons _ _=>simp [Zf]
 ·simp
mutual
theorem PS.list_sort {N:Nat}:∀{s:PS},OkS N s→s.list.Pairwise fun x y=>Zf x y<0
 | .mk ms ks,ok=>by
  simp only [OkS] at ok
  simp only [PS.list]
  refine List.pairwise_append.2 ⟨?_,PK.list_sort ok.2.2.2.2.2.2 ok.2.2.2.1 ok.2.2.2.2.1,fun x hx y hy=>?_⟩
  ·rw[List.pairwise_map]
   refine List.Pairwise.imp ?_ ok.2.1
   intro a b h
   rw[Zf,if_neg (by omega),if_pos rfl];exact h
  ·obtain ⟨e,_,rfl⟩:=List.mem_map.1 hx
   obtain ⟨f,q,rfl,_,hq,_⟩:=PK.list_good ok.2.2.2.2.2.2 ok.2.2.2.1 y hy
   exact znq e f hq
theorem PK.list_sort {N:Nat}:∀{k:PK},OkK N k→(∀e∈k.es,GoodE e)→zaQ k.es→k.list.Pairwise fun x y=>Zf x y<0
 | .nil,_,_,_=>by simp only [PK.list];exact .nil
 | .cons e s r,ok,hg,hs=>by
  simp only [OkK] at ok
  simp only [PK.es] at hs
  have hs:=List.pairwise_cons.1 hs
  have he:GoodE e:=hg e (by simp [PK.es])
  have hr:∀x∈r.es,GoodE x:=fun x hx=>hg x (by simp [PK.es,hx])
  simp only [PK.list]
  refine List.pairwise_append.2 ⟨?_,PK.list_sort ok.2 hr hs.2,fun x hx y hy=>?_⟩
  ·rw[List.pairwise_map]
   refine List.Pairwise.imp ?_ (PS.list_sort ok.1)
   intro a b h
   rw[zqU he.o];exact h
  ·obtain ⟨q,hq,rfl⟩:=List.mem_map.1 hx
   obtain ⟨f,q',rfl,hf,hq',_⟩:=PK.list_good ok.2 hr y hy
   exact zvj (hs.1 f hf) (PS.list_good ok.1 q hq).1 hq'
end
theorem PS.list_ok {N:Nat}{s:PS}(ok:OkS N s):OkW s.list:=⟨fun w hw=>(PS.list_good ok w hw).2,fun w hw=>(PS.list_good ok w hw).1,PS.list_sort ok⟩
theorem zvk {e:EV}:∀{k:PK},(∀x∈k.es,0<zt x e)→ZN e k= .empty
 | .nil,_=>rfl
 | .cons x s r,h=>by
  have:=h x (by simp [PK.es])
  simp only [ZN]
  rw[if_neg (by omega),if_neg (by omega)]
theorem PK.has_list {N:Nat}{e f:EV}{p:List EV}(he:OE e):∀{k:PK},OkK N k→(∀x∈k.es,GoodE x)→zaQ k.es→((∃w∈k.list,Zf w (e::f::p)=0)↔∃w∈(ZN e k).list,Zf w (f::p)=0)
 | .nil,_,_,_=>by simp [PK.list,ZN,PS.empty,PS.list]
 | .cons x s r,ok,hg,hs=>by
  simp only [OkK] at ok
  simp only [PK.es] at hs
  have hs:=List.pairwise_cons.1 hs
  have hx:GoodE x:=hg x (by simp [PK.es])
  have hr:∀y∈r.es,GoodE y:=fun y hy=>hg y (by simp [PK.es,hy])
  have ih:=PK.has_list (f:=f) (p:=p) he ok.2 hr hs.2
  have first:(∃w∈s.list.map (fun q=>x::q),Zf w (e::f::p)=0)↔zt x e=0∧∃w∈s.list,Zf w (f::p)=0:=by
   constructor
   ·rintro ⟨w,hw,h0⟩
    obtain ⟨q,hq,rfl⟩:=List.mem_map.1 hw
    have hne:=(PS.list_good ok.1 q hq).1
    obtain ⟨g,q',rfl⟩:∃g q',q=g::q':=by cases q with|nil=>exact absurd rfl hne|cons g q'=>exact ⟨g,q',rfl⟩
    rw[zjn] at h0
    exact ⟨h0.1,_,hq,h0.2⟩
   ·rintro ⟨h0,q,hq,h1⟩
    have hne:=(PS.list_good ok.1 q hq).1
    obtain ⟨g,q',rfl⟩:∃g q',q=g::q':=by cases q with|nil=>exact absurd rfl hne|cons g q'=>exact ⟨g,q',rfl⟩
    exact ⟨_,List.mem_map.2 ⟨_,hq,rfl⟩,(zjn ..).2 ⟨h0,h1⟩⟩
  have split2:(∃w∈(PK.cons x s r).list,Zf w (e::f::p)=0)↔(∃w∈s.list.map (fun q=>x::q),Zf w (e::f::p)=0)∨∃w∈r.list,Zf w (e::f::p)=0:=by
   simp only [PK.list,List.mem_append]
   constructor
   ·rintro ⟨w,h|h,h0⟩
    ·exact .inl ⟨w,h,h0⟩
    ·exact .inr ⟨w,h,h0⟩
   ·rintro (⟨w,h,h0⟩|⟨w,h,h0⟩)
    ·exact ⟨w,.inl h,h0⟩
    ·exact ⟨w,.inr h,h0⟩
  rw[split2,first,ih]
  simp only [ZN]
  by_cases h1:zt x e<0
  ·rw[if_pos h1]
   constructor
   ·rintro (⟨h,_⟩|h)
    ·omega
    ·exact h
   ·exact .inr
  ·have hgt:ZN e r= .empty:=zvk fun y hy=>by
    have k1:=hs.1 y hy
    have k2:=zo.anti x y hx.o (hr y hy).o
    have k3:=zo.anti x e hx.o he
    have k4:=zo.anti y e (hr y hy).o he
    have:=zo.le_lt he hx.o (hr y hy).o (by omega) k1
    omega
   rw[if_neg h1,hgt]
   have hno:¬∃w∈PS.empty.list,Zf w (f::p)=0:=by simp [PS.empty,PS.list,PK.list]
   by_cases h2:zt x e=0
   ·rw[if_pos h2]
    constructor
    ·rintro (⟨_,h⟩|h)
     ·exact h
     ·exact absurd h hno
    ·exact fun h=>.inl ⟨h2,h⟩
   ·rw[if_neg h2]
    constructor
    ·rintro (⟨h,_⟩|h)
     ·exact absurd h h2
     ·exact absurd h hno
    ·exact fun h=>absurd h hno
theorem PS.has_list {N:Nat}:∀(q:List EV) {s:PS},OkS N s→q≠ []→(∀e∈q,OE e)→(s.has q=true↔∃w∈s.list,Zf w q=0)
 | [],_,_,h,_=>absurd rfl h
 | [e],.mk ms ks,ok,_,_=>by
  simp only [OkS] at ok
  simp only [PS.has,zgD,PS.list,List.mem_append]
  constructor
  ·rintro ⟨x,hx,h0⟩
   exact ⟨[x],.inl (List.mem_map.2 ⟨x,hx,rfl⟩),(zjl ..).2 h0⟩
  ·rintro ⟨w,hw|hw,h0⟩
   ·obtain ⟨x,hx,rfl⟩:=List.mem_map.1 hw
    exact ⟨x,hx,(zjl ..).1 h0⟩
   ·obtain ⟨x,q,rfl,_,hq,_⟩:=PK.list_good ok.2.2.2.2.2.2 ok.2.2.2.1 w hw
    obtain ⟨g,q',rfl⟩:∃g q',q=g::q':=by cases q with|nil=>exact absurd rfl hq|cons g q'=>exact ⟨g,q',rfl⟩
    exact (zkS _ _ _ _ h0).elim
 |e::f::p,.mk ms ks,ok,_,ho=>by
  simp only [OkS] at ok
  have ih:=PS.has_list (f::p) (zdI e ok.2.2.2.2.2.2) (by simp) fun x hx=>ho x (List.mem_cons_of_mem _ hx)
  have hk:=PK.has_list (f:=f) (p:=p) (ho e (by simp)) ok.2.2.2.2.2.2 ok.2.2.2.1 ok.2.2.2.2.1
  simp only [PS.has]
  rw[ih,←hk]
  simp only [PS.list,List.mem_append]
  constructor
  ·rintro ⟨w,hw,h0⟩;exact ⟨w,.inr hw,h0⟩
  ·rintro ⟨w,hw|hw,h0⟩
   ·obtain ⟨x,_,rfl⟩:=List.mem_map.1 hw
    exact (zjm _ _ _ _ h0).elim
   ·exact ⟨w,hw,h0⟩
theorem zk1:∀{a  b:List EV},(∀x∈a,GoodE x)→(∀x∈b,GoodE x)→eqEs a b=true→All2 (fun x y=>zt x y=0) a b
 | [],[],_,_,_=>.nil
 | [],_::_,_,_,h=>by simp [eqEs] at h
 |_::_,[],_,_,h=>by simp [eqEs] at h
 |x::a,y::b,ha,hb,h=>by
  simp only [eqEs,Bool.and_eq_true] at h
  exact .cons ((znl (ha x (by simp)) (hb y (by simp))).1 h.1) (zk1 (fun z hz=>ha z (List.mem_cons_of_mem _ hz)) (fun z hz=>hb z (List.mem_cons_of_mem _ hz)) h.2)
theorem zk2 {N:Nat}:∀(p:List EV) (s:PS),OkS N s→(s.ins p).depth≤max s.depth p.length
 | [],s,_=>by rw[zgC];exact Nat.le_max_left ..
 | [e],.mk ms ks,_=>by simp only [PS.ins,PS.depth];omega
 |e::f::p,.mk ms ks,ok=>by
  simp only [OkS] at ok
  have ih:=zk2 (f::p) (ZN e ks) (zdI e ok.2.2.2.2.2.2)
  have hg:∀k:PK,(ZN e k).depth≤max k.depth 1:=fun k=>by
   induction k using PK.rec (motive_1:=fun _=>True) with
   |mk=>trivial
   |nil=>simp only [ZN,PS.empty,PS.depth,PK.depth];omega
   |cons x s r _ ih=>
    simp only [ZN,PK.depth]
    split
    ·omega
    ·split
     ·omega
     ·simp only [PS.empty,PS.depth,PK.depth];omega
  have hp:∀(t:PS) (k:PK),(zbI e t k).depth≤max k.depth t.depth:=fun t k=>by
   induction k using PK.rec (motive_1:=fun _=>True) with
   |mk=>trivial
   |nil=>simp only [zbI,PK.depth];omega
   |cons x s r _ ih=>
    simp only [zbI,PK.depth]
    split
    ·simp only [PK.depth];omega
    ·split
     ·simp only [PK.depth];omega
     ·simp only [PK.depth];omega
  have h1:=hg ks
  have h2:=hp ((ZN e ks).ins (f::p)) ks
  simp only [PS.ins,PS.depth]
  simp only [List.length_cons] at ih ⊢
  omega
theorem zk3:∀(n:Nat) (l:List (List EV)) ,l.length=n→(∀p∈l,∀e∈p,GoodE e)→∀B,1≤B→(∀p∈l,p.length≤B)→(mkP l).depth≤B
 |0,l,h,_,B,h1,_=>by
  cases l with
  |nil=>simp only [zuV,PS.empty,PS.depth,PK.depth];omega
  |cons _ _=>simp at h
 |n+1,l,h,hg,B,h1,hB=>by
  obtain ⟨m,p,rfl⟩:∃m p,l=m++ [p]:=⟨l.dropLast,l.getLast (by intro h0;rw[h0] at h;simp at h),(List.dropLast_concat_getLast _).symm⟩
  have hm:∀q∈m,∀e∈q,GoodE e:=fun q hq=>hg q (by simp [hq])
  have ih:=zk3 n m (by simpa using h) hm B h1 fun q hq=>hB q (by simp [hq])
  have:=zk2 p (mkP m) (zhf _ m rfl hm)
  have hpB:=hB p (by simp)
  rw[ze6];omega
def zas (e:EV)(l:List EV):Bool:=l.any fun x=>decide (zt x e=0)
theorem zbY {e:EV}{l:List EV}:zas e l=true↔∃x∈l,zt x e=0:=by simp [zas]
theorem zhg {e f:EV}{l:List EV}(he:OE e)(hf:OE f)(hl:∀x∈l,OE x)(h:zt e f=0):zas e l=zas f l:=by
 rw[Bool.eq_iff_iff,zbY,zbY]
 have h':zt f e=0:=by have:=zo.anti e f he hf;omega
 exact ⟨fun ⟨x,hx,h0⟩=>⟨x,hx,zo.eq_trans (hl x hx) he hf h0 h⟩,fun ⟨x,hx,h0⟩=>⟨x,hx,zo.eq_trans (hl x hx) hf he h0 h'⟩⟩
def Zq (e:EV):PK→Option PS
 | .nil=>none
 | .cons x s r=>if zt x e=0 then some s else Zq e r
theorem zeA {e:EV}:∀{k:PK},Zq e k=none↔zas e k.es=false
 | .nil=>by simp [Zq,PK.es,zas]
 | .cons x s r=>by
  have ih:=zeA (e:=e) (k:=r)
  simp only [Zq,PK.es]
  by_cases h:zt x e=0
  ·simp [h,zas]
  ·rw[if_neg h,ih];simp [h,zas]
theorem zdh {e:EV}:∀{k:PK} {s:PS},Zq e k=some s→s∈k.ss
 | .nil,s,h=>by simp [Zq] at h
 | .cons x t r,s,h=>by
  simp only [Zq] at h
  simp only [PK.ss]
  split at h
  ·cases h;exact List.mem_cons_self ..
  ·exact List.mem_cons_of_mem _ (zdh h)
theorem zf6 {e f:EV}(he:OE e)(hf:OE f)(h:zt e f=0):∀{k:PK},(∀x∈k.es,OE x)→Zq e k=Zq f k
 | .nil,_=>rfl
 | .cons x s r,hk=>by
  have hx:OE x:=hk x (by simp [PK.es])
  have h':zt f e=0:=by have:=zo.anti e f he hf;omega
  have ih:=zf6 he hf h (k:=r) fun y hy=>hk y (by simp [PK.es,hy])
  have:zt x e=0↔zt x f=0:=⟨fun h0=>zo.eq_trans hx he hf h0 h,fun h0=>zo.eq_trans hx hf he h0 h'⟩
  simp only [Zq,this,ih]
theorem zts {e x:EV}{r:PK}(he:OE e)(hx:OE x)(h:zt x e=0)(hr:∀y∈r.es,OE y)(hs:∀y∈r.es,zt x y<0):Zq e r=none:=by
 rw[zeA,←Bool.not_eq_true,zbY]
 rintro ⟨y,hy,h0⟩
 have k1:=hs y hy
 have h':zt e x=0:=by have:=zo.anti x e hx he;omega
 have h2:=zo.eq_trans (hr y hy) he hx h0 h'
 have:=zo.anti x y hx (hr y hy)
 omega
theorem zk4 {e:EV}(he:OE e):∀{k:PK},(∀x∈k.es,OE x)→zaQ k.es→ZN e k=(Zq e k).getD .empty
 | .nil,_,_=>rfl
 | .cons x s r,hk,hs=>by
  simp only [PK.es] at hs
  have hs:=List.pairwise_cons.1 hs
  have hx:OE x:=hk x (by simp [PK.es])
  have hr:∀y∈r.es,OE y:=fun y hy=>hk y (by simp [PK.es,hy])
  simp only [ZN,Zq]
  by_cases h0:zt x e=0
  ·rw[if_neg (by omega),if_pos h0,if_pos h0];rfl
  ·rw[if_neg h0,if_neg h0]
   by_cases h1:zt x e<0
   ·rw[if_pos h1];exact zk4 he hr hs.2
   ·rw[if_neg h1]
    have:Zq e r=none:=by
     rw[zeA,←Bool.not_eq_true,zbY]
     rintro ⟨y,hy,h2⟩
     have k1:=hs.1 y hy
     have k2:=zo.anti x e hx he
     have:=zo.lt_le hx (hr y hy) he k1 (by omega)
     omega
    rw[this];rfl
theorem zk5:∀q:List  EV,PS.empty.has q=false
 | []=>by simp [PS.has]
 | [e]=>by simp [PS.empty,PS.has]
 |e::f::q=>by
  have:=zk5 (f::q)
  simpa [PS.empty,PS.has,ZN] using this
theorem zh0 (s:PS)(e:EV):s.has [e]=zas e s.ms:=by cases s;simp only [PS.has,PS.ms,zas]
theorem zh1 {N:Nat}{s:PS}(ok:OkS N s){e:EV}(he:OE e)(f:EV)(p:List EV):s.has (e::f::p)=match Zq e s.ks with|none=>false|some t=>t.has (f::p):=by
 obtain ⟨ms,ks⟩:=s
 simp only [OkS] at ok
 simp only [PS.has,PS.ks]
 rw[zk4 he (fun x hx=>(ok.2.2.2.1 x hx).o) ok.2.2.2.2.1]
 cases Zq e ks with
 |none=>exact zk5 _
 |some t=>rfl
def zdx (g:EV→PS→Option PS):PK→PK
 | .nil=>.nil
 | .cons e s r=>match g e s with
  |none=>zdx g r
  |some s'=>.cons e s' (zdx g r)
theorem zpz (g:EV→PS→Option PS):∀k:PK,(zdx g k).es.Sublist k.es
 | .nil=>List.Sublist.refl _
 | .cons e s r=>by
  have ih:=zpz g r
  simp only [zdx,PK.es]
  split
  ·exact ih.cons _
  ·simp only [PK.es];exact ih.cons_cons _
theorem zpA {N:Nat}(g:EV→PS→Option PS):∀{k:PK},(∀e s s',s∈k.ss→g e s=some s'→OkS N s')→OkK N (zdx g k)
 | .nil,_=>by simp only [zdx,OkK]
 | .cons e s r,h=>by
  have ih:=zpA g (k:=r) fun e s s' hs=>h e s s' (by simp [PK.ss,hs])
  simp only [zdx]
  split
  ·exact ih
  ·next s' hg=>simp only [OkK];exact ⟨h e s s' (by simp [PK.ss]) hg,ih⟩
theorem zk6 (g:EV→PS→Option PS):∀{k:PK},(∀e s s',s∈k.ss→g e s=some s'→s'.size≠0∧s'.full)→(zdx g k).full
 | .nil,_=>by simp only [zdx,PK.full]
 | .cons e s r,h=>by
  have ih:=zk6 g (k:=r) fun e s s' hs=>h e s s' (by simp [PK.ss,hs])
  simp only [zdx]
  split
  ·exact ih
  ·next s' hg=>
   have:=h e s s' (by simp [PK.ss]) hg
   simp only [PK.full];exact ⟨this.1,this.2,ih⟩
theorem zjt (g:EV→PS→Option PS):∀{k:PK},(∀e s s',s∈k.ss→g e s=some s'→s'.depth≤s.depth)→(zdx g k).depth≤k.depth
 | .nil,_=>by simp only [zdx];omega
 | .cons e s r,h=>by
  have ih:=zjt g (k:=r) fun e s s' hs=>h e s s' (by simp [PK.ss,hs])
  simp only [zdx]
  split
  ·simp only [PK.depth];omega
  ·next s' hg=>
   have:=h e s s' (by simp [PK.ss]) hg
   simp only [PK.depth];omega
theorem zk7 (g:EV→PS→Option PS):∀{k:PK},(∀e s s',s∈k.ss→g e s=some s'→s'.size≤s.size)→(zdx g k).size≤k.size
 | .nil,_=>by simp only [zdx];omega
 | .cons e s r,h=>by
  have ih:=zk7 g (k:=r) fun e s s' hs=>h e s s' (by simp [PK.ss,hs])
  simp only [zdx]
  split
  ·simp only [PK.size];omega
  ·next s' hg=>
   have:=h e s s' (by simp [PK.ss]) hg
   simp only [PK.size];omega
theorem zk8 (g:EV→PS→Option PS){e:EV}(he:OE e)(hg:∀x s,OE x→zt x e=0→g x s=g e s):∀{k:PK},(∀x∈k.es,OE x)→zaQ k.es→Zq e (zdx g k)=(Zq e k).bind (g e)
 | .nil,_,_=>rfl
 | .cons x s r,hk,hs=>by
  simp only [PK.es] at hs
  have hs:=List.pairwise_cons.1 hs
  have hx:OE x:=hk x (by simp [PK.es])
  have hr:∀y∈r.es,OE y:=fun y hy=>hk y (by simp [PK.es,hy])
  have ih:=zk8 g he hg hr hs.2
  simp only [zdx,Zq]
  by_cases h0:zt x e=0
  ·rw[if_pos h0,hg x s hx h0]
   have hn:=zts he hx h0 hr hs.1
   rw[hn] at ih
   cases hge:g e s with
   |none=>simp only [ih,Option.bind_some,Option.bind_none,hge]
   |some s'=>simp only [Zq,if_pos h0,Option.bind_some,hge]
  ·rw[if_neg h0]
   cases g x s with
   |none=>exact ih
   |some s'=>simp only [Zq,if_neg h0];exact ih
theorem zoI {ms:List EV}{e:EV}(p:EV→Bool)(he:OE e)(hm:∀x∈ms,OE x)(hp:∀x,OE x→zt x e=0→p x=p e):zas e (ms.filter p)=(zas e ms && p e):=by
 rw[Bool.eq_iff_iff,Bool.and_eq_true,zbY,zbY]
 constructor
 ·rintro ⟨x,hx,h0⟩
  have hx:=List.mem_filter.1 hx
  exact ⟨⟨x,hx.1,h0⟩,by rw[←hp x (hm x hx.1) h0];exact hx.2⟩
 ·rintro ⟨⟨x,hx,h0⟩,hpe⟩
  exact ⟨x,List.mem_filter.2 ⟨hx,by rw[hp x (hm x hx) h0];exact hpe⟩,h0⟩
theorem zw9 {N:Nat}{ms ms':List EV}{ks:PK}{ks':PK}(ok:OkS N (.mk ms ks))(hm:ms'.Sublist ms)(hk:ks'.es.Sublist ks.es)(h:OkK N ks'):OkS N (.mk ms' ks'):=by
 simp only [OkS] at ok ⊢
 exact ⟨fun e he=>ok.1 e (hm.subset he),ok.2.1.sublist hm,Nat.le_trans hm.length_le ok.2.2.1,fun e he=>ok.2.2.2.1 e (hk.subset he),ok.2.2.2.2.1.sublist hk,Nat.le_trans hk.length_le ok.2.2.2.2.2.1,h⟩
structure SOp where
 mem:Bool→Bool
 cut:Bool
 left:Bool
def oRd:SOp:=⟨not,true,true⟩
def zf7 (cut left:Bool)(s:PS)(d:Option PS):Option PS:=bif cut then none else match d with
 |none=>bif left then some s else none
 |some d=>bif d.none then none else some d
mutual
def opS (o:SOp):PS→PS→PS
 | .mk ms ks,t=>.mk (ms.filter fun e=>o.mem (zas e t.ms)) (opK o ks t)
def opK (o:SOp):PK→PS→PK
 | .nil,_=>.nil
 | .cons e s r,t=>match zf7 (o.cut && zas e t.ms) o.left s ((Zq e t.ks).map fun s'=>opS o s s') with
  |none=>opK o r t
  |some s'=>.cons e s' (opK o r t)
end
def opG (o:SOp)(t:PS)(e:EV)(s:PS):Option PS:=zf7 (o.cut && zas e t.ms) o.left s ((Zq e t.ks).map fun s'=>opS o s s')
theorem zgI (o:SOp)(t:PS):∀k:PK,opK o k t=zdx (opG o t) k
 | .nil=>by simp only [opK,zdx]
 | .cons e s r=>by simp only [opK,zdx,opG,zgI o t r]
theorem ztt (o:SOp)(t:PS)(e:EV)(s:PS)(r:PK):opK o (.cons e s r) t=match opG o t e s with|none=>opK o r t|some s'=>.cons e s' (opK o r t):=by
 rw[zgI,zdx,←zgI]
theorem ztu {s:PS}(h:s.none=true)(q:List EV):s.has q=false:=by
 rw[Bool.eq_false_iff]
 intro hq
 exact zjr q hq ((PS.none_iff s).1 h)
theorem znr {N:Nat}(o:SOp):∀s:PS,OkS N s→∀t:PS,OkS N (opS o s t)∧(opS o s t).depth≤s.depth∧(opS o s t).size≤s.size∧(s.full→(opS o s t).full):=
 zjf fun ms ks ih ok t=>by
  have ok0:=ok
  simp only [OkS] at ok
  have hk:∀e s s',s∈ks.ss→opG o t e s=some s'→OkS N s'∧s'.depth≤s.depth∧s'.size≤s.size∧(s.full→s'.full)∧(s.size≠0→s'.size≠0):=fun e s s' hs hg=>by
   have oks:=ok.2.2.2.2.2.2.all s hs
   unfold opG zf7 at hg
   cases hc:(o.cut && zas e t.ms) with
   |true=>rw[hc] at hg;cases hg
   |false=>
    rw[hc] at hg
    cases hf:Zq e t.ks with
    |none=>
     rw[hf] at hg
     cases hl:o.left with
     |true=>simp [hl] at hg;subst hg;exact ⟨oks,Nat.le_refl _,Nat.le_refl _,fun h=>h,fun h=>h⟩
     |false=>simp [hl] at hg
    |some u=>
     rw[hf] at hg
     cases hn:(opS o s u).none with
     |true=>simp [hn] at hg
     |false=>
      simp [hn] at hg
      subst hg
      have:=ih s hs oks u
      exact ⟨this.1,this.2.1,this.2.2.1,this.2.2.2,fun _ h0=>by rw[(PS.none_iff _).2 h0] at hn;cases hn⟩
  simp only [opS,zgI]
  refine ⟨zw9 ok0 List.filter_sublist (zpz _ _) (zpA _ fun e s s' hs hg=>(hk e s s' hs hg).1),?_,?_,fun hf=>?_⟩
  ·have:=zjt (opG o t) (k:=ks) fun e s s' hs hg=>(hk e s s' hs hg).2.1
   simp only [PS.depth];omega
  ·have:=zk7 (opG o t) (k:=ks) fun e s s' hs hg=>(hk e s s' hs hg).2.2.1
   have h2:=List.length_filter_le (fun e=>o.mem (zas e t.ms)) ms
   simp only [PS.size];omega
  ·simp only [PS.full] at hf ⊢
   refine zk6 _ fun e s s' hs hg=>?_
   have h1:=PK.full_all hf s hs
   have h2:=hk e s s' hs hg
   exact ⟨h2.2.2.2.2 h1.1,h2.2.2.2.1 h1.2⟩
def zoJ (o:SOp):PS→List EV→Bool
 |_,[]=>false
 | .mk ms _,[e]=>o.mem (zas e ms)
 | .mk ms ks,e::f::q=>bif (o.cut && zas e ms) then false else match Zq e ks with|none=>o.left|some t=>zoJ o t (f::q)
theorem ztv {N M:Nat}(o:SOp):∀(q:List EV),q≠ []→(∀e∈q,OE e)→∀{s t:PS},OkS N s→OkS M t→(opS o s t).has q=(s.has q && zoJ o t q)
 | [],h,_,_,_,_,_=>absurd rfl h
 | [e],_,ho,s,t,ok,ok'=>by
  have he:=ho e (by simp)
  rw[zh0,zh0]
  obtain ⟨ms,ks⟩:=s
  obtain ⟨ms',ks'⟩:=t
  simp only [OkS] at ok ok'
  simp only [opS,PS.ms,zoJ]
  exact zoI _ he (fun x hx=>(ok.1 x hx).o) fun x hx h0=>by rw[zhg hx he (fun y hy=>(ok'.1 y hy).o) h0]
 |e::f::p,_,ho,s,t,ok,ok'=>by
  have he:=ho e (by simp)
  rw[zh1 (znr o s ok t).1 he,zh1 ok he]
  obtain ⟨ms,ks⟩:=s
  simp only [OkS] at ok
  obtain ⟨ms',ks'⟩:=t
  simp only [OkS] at ok'
  have hfind:Zq e (opS o (.mk ms ks) (.mk ms' ks')).ks=(Zq e ks).bind (opG o (.mk ms' ks') e):=by
   simp only [opS,PS.ks,zgI]
   refine zk8 _ he (fun x s hx h0=>?_) (fun x hx=>(ok.2.2.2.1 x hx).o) ok.2.2.2.2.1
   simp only [opG,PS.ms,PS.ks]
   rw[zhg hx he (fun y hy=>(ok'.1 y hy).o) h0,zf6 hx he h0 fun y hy=>(ok'.2.2.2.1 y hy).o]
  rw[hfind]
  simp only [PS.ks]
  cases hk:Zq e ks with
  |none=>simp
  |some s0=>
   have hs0:=ok.2.2.2.2.2.2.all s0 (zdh hk)
   simp only [Option.bind_some,opG,PS.ms,PS.ks,zoJ,zf7]
   cases hm:(o.cut && zas e ms') with
   |true=>simp
   |false=>
    cases ht:Zq e ks' with
    |none=>cases o.left<;>simp
    |some t0=>
     have ht0:=ok'.2.2.2.2.2.2.all t0 (zdh ht)
     have ih:=ztv o (f::p) (by simp) (fun x hx=>ho x (List.mem_cons_of_mem _ hx)) hs0 ht0
     cases hn:(opS o s0 t0).none with
     |true=>
      have:=ztu hn (f::p)
      rw[ih] at this
      simp [hn,this]
     |false=>simp [hn,ih]
def zcn:PS→List  EV→Bool
 |_,[]=>false
 | .mk ms ks,e::q=>zas e ms||match Zq e ks with|none=>false|some t=>zcn t q
theorem zdJ (t:PS)(e:EV)(q:List EV):zcn t (e::q)=(zas e t.ms||match Zq e t.ks with|none=>false|some t'=>zcn t' q):=by cases t;simp only [zcn,PS.ms,PS.ks]
theorem ztw:∀(q:List  EV),q≠ []→∀t:PS,zoJ oRd t q= !zcn t q
 | [],h,_=>absurd rfl h
 | [e],_,.mk ms ks=>by
  simp only [zoJ,oRd,zcn]
  cases Zq e ks with
  |none=>simp
  |some t'=>simp [zcn]
 |e::f::q,_,.mk ms ks=>by
  have ih:=ztw (f::q) (by simp)
  rw[zdJ]
  simp only [zoJ,oRd,PS.ms,PS.ks,Bool.true_and]
  cases zas e ms with
  |true=>simp
  |false=>
   cases Zq e ks with
   |none=>simp
   |some t'=>simpa [oRd] using ih t'
theorem zju {M:Nat}:∀{p q:List EV},All2 (fun x y=>zt x y=0) p q→(∀e∈p,OE e)→(∀e∈q,OE e)→∀{t:PS},OkS M t→zcn t p=zcn t q
 |_,_,.nil,_,_,_,_=>rfl
 |a::p,b::q,.cons h k,hp,hq,.mk ms ks,ok=>by
  simp only [OkS] at ok
  have ha:=hp a (by simp)
  have hb:=hq b (by simp)
  rw[zdJ,zdJ]
  simp only [PS.ms,PS.ks]
  rw[zhg ha hb (fun y hy=>(ok.1 y hy).o) h,zf6 ha hb h fun y hy=>(ok.2.2.2.1 y hy).o]
  cases hk:Zq b ks with
  |none=>rfl
  |some t'=>
   dsimp only
   rw[zju k (fun e he=>hp e (by simp [he])) (fun e he=>hq e (by simp [he])) (ok.2.2.2.2.2.2.all t' (zdh hk))]
theorem zhh {M:Nat}:∀(q:List EV),(∀e∈q,OE e)→∀{t:PS},OkS M t→(zcn t q=true↔∃n,1≤n∧n≤q.length∧t.has (q.take n)=true)
 | [],_,t,_=>by simp only [zcn,List.length_nil];constructor<;>intro h;cases h;obtain ⟨n,h1,h2,_⟩:=h;omega
 |e::q,ho,t,ok=>by
  have he:=ho e (by simp)
  have hq:∀x∈q,OE x:=fun x hx=>ho x (List.mem_cons_of_mem _ hx)
  rw[zdJ,Bool.or_eq_true]
  have okt:=ok
  constructor
  ·rintro (h|h)
   ·exact ⟨1,Nat.le_refl _,by simp,by simp only [List.take_succ_cons,List.take_zero];rw[zh0];exact h⟩
   ·cases hk:Zq e t.ks with
    |none=>rw[hk] at h;cases h
    |some t'=>
     rw[hk] at h
     have ok':OkS M t':=by
      obtain ⟨ms,ks⟩:=t
      simp only [OkS] at ok
      exact ok.2.2.2.2.2.2.all t' (zdh hk)
     obtain ⟨n,h1,h2,h3⟩:=(zhh q hq ok').1 h
     refine ⟨n+1,by omega,by simp;omega,?_⟩
     obtain ⟨f,p,rfl⟩:∃f p,q=f::p:=by cases q with|nil=>simp at h2;omega|cons f p=>exact ⟨f,p,rfl⟩
     obtain ⟨m,rfl⟩:∃m,n=m+1:=⟨n - 1,by omega⟩
     simp only [List.take_succ_cons] at h3 ⊢
     rw[zh1 okt he,hk];exact h3
  ·rintro ⟨n,h1,h2,h3⟩
   obtain ⟨m,rfl⟩:∃m,n=m+1:=⟨n - 1,by omega⟩
   rw[List.take_succ_cons] at h3
   cases m with
   |zero=>rw[List.take_zero,zh0] at h3;exact .inl h3
   |succ m=>
    obtain ⟨f,p,rfl⟩:∃f p,q=f::p:=by cases q with|nil=>simp at h2|cons f p=>exact ⟨f,p,rfl⟩
    rw[List.take_succ_cons,zh1 okt he] at h3
    right
    cases hk:Zq e t.ks with
    |none=>rw[hk] at h3;cases h3
    |some t'=>
     rw[hk] at h3
     have ok':OkS M t':=by
      obtain ⟨ms,ks⟩:=t
      simp only [OkS] at ok
      exact ok.2.2.2.2.2.2.all t' (zdh hk)
     exact (zhh (f::p) hq ok').2 ⟨m+1,by omega,by simp at h2 ⊢;omega,by rw[List.take_succ_cons];exact h3⟩
theorem zk9 (e x:EV)(l:List EV):zas e (x::l)=(decide (zt x e=0)||zas e l):=by simp [zas]
theorem zvl {e:EV}(he:OE e){l:List EV}(h:∀y∈l,OE y∧zt e y<0):zas e l=false:=by
 rw[←Bool.not_eq_true,zbY]
 rintro ⟨y,hy,h0⟩
 have:=h y hy
 have:=zo.anti e y he this.1
 omega
theorem zns {x y:EV}{a b:List EV}(gA:∀e∈x::a,GoodE e)(gB:∀e∈y::b,GoodE e)(sA:zaQ (x::a))(sB:zaQ (y::b)):
  (zt x y<0→zas x (y::b)=false)∧(zt y x<0→∀z∈x::a,zas z (y::b)=zas z b)∧(zt x y=0→zas x (y::b)=true∧∀z∈a,zas z (y::b)=zas z b):=by
 have sA:=List.pairwise_cons.1 sA
 have sB:=List.pairwise_cons.1 sB
 have hx:=(gA x (by simp)).o
 have hy:=(gB y (by simp)).o
 refine ⟨fun h=>zvl hx fun z hz=>?_,fun h z hz=>?_,fun h=>⟨?_,fun z hz=>?_⟩⟩
 ·have oz:=(gB z hz).o
  refine ⟨oz,?_⟩
  rcases List.mem_cons.1 hz with rfl|hz
  ·exact h
  ·exact zo.lt_le hx hy oz h (Int.le_of_lt (sB.1 z hz))
 ·have oz:=(gA z hz).o
  rw[zk9]
  have:zt y z<0:=by
   rcases List.mem_cons.1 hz with rfl|hz
   ·exact h
   ·exact zo.lt_le hy hx oz h (Int.le_of_lt (sA.1 z hz))
  rw[decide_eq_false (by omega),Bool.false_or]
 ·rw[zbY];exact ⟨y,by simp,by have:=zo.anti x y hx hy;omega⟩
 ·have oz:=(gA z (by simp [hz])).o
  rw[zk9]
  have:zt y z<0:=zo.le_lt hy hx oz (by have:=zo.anti x y hx hy;omega) (sA.1 z hz)
  rw[decide_eq_false (by omega),Bool.false_or]
theorem znt:∀(n:Nat) (A B:List EV) ,A.length+B.length=n→(∀e∈A,GoodE e)→(∀e∈B,GoodE e)→zaQ A→zaQ B→zhd (A.map zR) (B.map zR)=(A.filter fun e=> !zas e B).map zR:=fun n=>by
 induction n using Nat.strongRecOn with
 |ind n ih=>
  intro A B hn gA gB sA sB
  match A,B with
  | [],B=>simp [zpn]
  |A,[]=>
   rw[List.map_nil,zpm]
   congr 1
   exact (List.filter_eq_self.2 fun e _=>by simp [zas]).symm
  |x::a,y::b=>
   obtain ⟨f1,f2,f3⟩:=zns gA gB sA sB
   have sA':=List.pairwise_cons.1 sA
   have sB':=List.pairwise_cons.1 sB
   have gx:=gA x (by simp)
   have gy:=gB y (by simp)
   have ga:∀e∈a,GoodE e:=fun e he=>gA e (by simp [he])
   have gb:∀e∈b,GoodE e:=fun e he=>gB e (by simp [he])
   have hn':a.length+b.length+2=n:=by simp at hn;omega
   have anti:=zo.anti x y gx.o gy.o
   rw[List.map_cons,List.map_cons,zhd,za1 _ _ gx.f gy.f,za1 _ _ gy.f gx.f]
   by_cases h1:zt x y<0
   ·rw[if_pos h1,←List.map_cons,ih (a.length+(y::b).length) (by simp;omega) a (y::b) rfl ga gB sA'.2 sB,List.filter_cons_of_pos (by rw[f1 h1];rfl)]
    rfl
   ·rw[if_neg h1]
    by_cases h2:zt y x<0
    ·rw[if_pos h2,←List.map_cons,ih ((x::a).length+b.length) (by simp;omega) (x::a) b rfl gA gb sA sB'.2]
     congr 1
     exact List.filter_congr fun z hz=>by rw[f2 h2 z hz]
    ·rw[if_neg h2,ih (a.length+b.length) (by omega) a b rfl ga gb sA'.2 sB'.2]
     obtain ⟨k1,k2⟩:=f3 (by omega)
     rw[List.filter_cons_of_neg (by rw[k1];simp)]
     congr 1
     exact List.filter_congr fun z hz=>by rw[k2 z hz]
theorem zpB {α:Type}{c:α→α→Int}{e:α}:∀{S:List α},(∀x∈S,c x e<0)→lbG c e S=S.length
 | [],_=>rfl
 |x::r,h=>by
  simp only [lbG]
  rw[if_pos (h x (by simp)),zpB fun y hy=>h y (by simp [hy])];rfl
theorem zf8:∀(n:Nat) (W:List (List EV)) ,W.length=n→OkW W→mkW W=W
 |0,W,h,_=>by cases W with|nil=>rfl|cons _ _=>simp at h
 |n+1,W,h,ok=>by
  obtain ⟨m,p,rfl⟩:∃m p,W=m++ [p]:=⟨W.dropLast,W.getLast (by intro h0;rw[h0] at h;simp at h),(List.dropLast_concat_getLast _).symm⟩
  have hs:=List.pairwise_append.1 ok.sort
  have okm:OkW m:=⟨fun w hw=>ok.good w (by simp [hw]),fun w hw=>ok.ne w (by simp [hw]),hs.1⟩
  have ih:=zf8 n m (by simpa using h) okm
  have hlt:∀x∈m,Zf x p<0:=fun x hx=>hs.2.2 x hx p (by simp)
  rw[zfb,ih]
  unfold zfy
  have hne:p≠ []:=ok.ne p (by simp)
  rw[if_neg (by simpa using hne),if_neg,zpB hlt]
  ·unfold zX;simp
  ·rw[zcm]
   rintro ⟨w,hw,h0⟩
   have:=hlt w hw;omega
theorem OkW.map_cE {W:List (List EV)}(h:OkW W):OkW (W.map fun w=>w.map cE):=by
 refine ⟨fun w hw=>?_,fun w hw=>?_,?_⟩
 ·obtain ⟨x,hx,rfl⟩:=List.mem_map.1 hw
  intro e he
  obtain ⟨y,hy,rfl⟩:=List.mem_map.1 he
  exact zfv (h.good x hx y hy)
 ·obtain ⟨x,hx,rfl⟩:=List.mem_map.1 hw
  have:=h.ne x hx
  simpa using this
 ·rw[List.pairwise_map]
  refine List.Pairwise.imp_of_mem (fun {a b} ha hb hab=>?_) h.sort
  have o2:zjh (b.map cE):=fun e he=>by obtain ⟨y,hy,rfl⟩:=List.mem_map.1 he;exact (zfv (h.good b hb y hy)).o
  have a1:=zbJ.anti a (b.map cE) (h.oe a ha) o2
  have a2:=zbJ.anti a b (h.oe a ha) (h.oe b hb)
  rw[zgH] at a1
  rw[zgH]
  omega
end Go.Smd
end
