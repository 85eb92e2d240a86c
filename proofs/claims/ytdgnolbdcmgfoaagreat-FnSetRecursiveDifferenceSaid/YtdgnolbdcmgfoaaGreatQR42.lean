/- Part 42 of the proof: Li Lj. -/
import Derived.Test.YtdgnolbdcmgfoaaGreatQR41
set_option linter.unusedVariables false
set_option linter.unusedSimpArgs false
set_option maxRecDepth 100000
set_option maxHeartbeats 8000000
section
namespace Go.Smd
open Go.RowKit Go.Proofs Go.Proofs.Tryz
theorem zjW (e e':EV)(h:EVs e)(h':EVs e'):ACalls prog 27 [evA e,evA e'] (fun r=>r=aV (.bool (zjP e e'))):=by
 obtain ⟨k,s,keys,l,⟨a,b,c,d,e,f⟩,n⟩:=e
 obtain ⟨k',s',keys',l',⟨a',b',c',d',e',f'⟩,n'⟩:=e'
 rw[zds,zds]
 exact zjQ _ _ _ _ _ _ _ _ _ _ _ _ _ _ _ _ _ _ _ _ _ _ h.hk h.hl h'.hk h'.hl
def zeB (p q:List EV):Bool:=eqEs (p.take q.length) q
theorem znw (p q:List EV)(hp:PthS p)(hq:PthS q):ACalls prog 43 [.c (.d (zG p)),.c (.d (zG q))] (fun r=>r=aV (.bool (zeB p q))):=by
 have b1:p.length≤9223372036854775807:=by have:=hp.1;omega
 have b2:q.length≤9223372036854775807:=by have:=hq.1;omega
 by_cases hl:p.length<q.length
 ·have hf:zeB p q=false:=by
   unfold zeB
   rw[←Bool.not_eq_true,zfc]
   rintro ⟨h,_⟩
   rw[List.length_take] at h;omega
  rw[hf]
  refine ze [(6,([8],[(0,[]),(1,[]),(2,[]),(3,[]),(4,[]),(5,[]),(6,[]),(7,[]),(8,[]),(9,[])]))] func43 (by kernel_rfl) rfl ntmps43 results43 (Nat.le_of_ble_eq_true (by kernel_rfl)) ?_;intro hok w0 S0
  clear hok
  (repeat' (first|(with_reducible first|refine zj (fun _=>?_) (fun _=>?_)|refine zi (fun _=>?_) (fun _=>?_)|refine zk zb (by kernel_rfl) ?_|exact za rfl)|(simp -dsimp [b1,b2,hl])));(all_goals try with_reducible refine za ?_)
 ·have hl':q.length≤p.length:=by omega
  refine ze [(6,([8],[(0,[]),(1,[]),(2,[]),(3,[]),(4,[]),(5,[]),(6,[]),(7,[]),(8,[]),(9,[])]))] func43 (by kernel_rfl) rfl ntmps43 results43 (Nat.le_of_ble_eq_true (by kernel_rfl)) ?_;intro hok w0 S0
  clear hok
  (repeat' (first|(with_reducible first|refine zj (fun _=>?_) (fun _=>?_)|refine zi (fun _=>?_) (fun _=>?_)|refine zk zb (by kernel_rfl) ?_|exact za rfl)|(simp -dsimp [b1,b2,hl])));(all_goals try with_reducible refine za ?_)
  refine zC (fun i:Nat=>⟨[(0,.c (.d (zG p))),(1,.c (.d (zG q))),(12,aI q.length),(13,aI i)],[]⟩) (fun i=>i≤q.length∧∀(j:Nat) (h:j<p.length) (h':j<q.length),j<i→zjP p[j] q[j]=true) (fun i=>q.length - i) 0 ?_ ⟨Nat.zero_le _,fun j _ _ h=>by omega⟩ ?_
  ·exact Weak.same (by simp -dsimp) (by simp -dsimp) (by first|rfl|(simp [zf,Av.ids,Ow.ids,Cl.ids,Go.Smd.keys];done))
  ·rintro i ⟨hi,hall⟩ K hK
   by_cases h2:i<q.length
   ·have h1:i<p.length:=by omega
    have hw:IntKind.wrap .i64 ((i:Int)+1)=((i+1:Nat):Int):=by rw[zn]<;>omega
    have c1:=zjW p[i] q[i] (hp.2 _ (List.getElem_mem h1)) (hq.2 _ (List.getElem_mem h2))
    cases he:zjP p[i] q[i] with
    |true=>
     rw[he] at c1
     (repeat' (first|(with_reducible first|refine zj (fun _=>?_) (fun _=>?_)|refine zi (fun _=>?_) (fun _=>?_)|refine zl (c1) (by first|rfl|(simp -dsimp [b1,b2,h1,h2,hw];done)) ?_|(refine zA (c1) rfl ?_ ?_ ?_;iterate 2 exact by first|rfl|(simp -dsimp [b1,b2,h1,h2,hw];done))|refine zk zb (by kernel_rfl) ?_|exact za rfl)|(simp -dsimp [b1,b2,h1,h2,hw])));(all_goals try with_reducible refine za ?_)
     refine hK _ (i+1) ?_ ⟨by omega,fun j k1 k2 k3=>?_⟩ (by omega)
     ·exact Weak.same (by simp -dsimp) (by simp -dsimp) (by first|rfl|(simp [zf,Av.ids,Ow.ids,Cl.ids,Go.Smd.keys];done))
     ·by_cases e:j=i
      ·subst e;exact he
      ·exact hall j k1 k2 (by omega)
    |false=>
     rw[he] at c1
     have hf:zeB p q=false:=by
      unfold zeB
      rw[←Bool.not_eq_true,zfc]
      rintro ⟨_,h⟩
      have:=h i (by rw[List.length_take];omega) h2
      rw[List.getElem_take,he] at this;cases this
     (repeat' (first|(with_reducible first|refine zj (fun _=>?_) (fun _=>?_)|refine zi (fun _=>?_) (fun _=>?_)|refine zl (c1) (by first|rfl|(simp -dsimp [b1,b2,h1,h2,hw];done)) ?_|(refine zA (c1) rfl ?_ ?_ ?_;iterate 2 exact by first|rfl|(simp -dsimp [b1,b2,h1,h2,hw];done))|refine zk zb (by kernel_rfl) ?_|exact za rfl)|(simp -dsimp [b1,b2,h1,h2,hw])));(all_goals try with_reducible refine za ?_)
     rw[hf]
   ·have ht:zeB p q=true:=by
     unfold zeB
     rw[zfc]
     refine ⟨by rw[List.length_take];omega,fun j k1 k2=>?_⟩
     rw[List.getElem_take]
     exact hall j (by omega) k2 (by omega)
    (repeat' (first|(with_reducible first|refine zj (fun _=>?_) (fun _=>?_)|refine zi (fun _=>?_) (fun _=>?_)|refine zk zb (by kernel_rfl) ?_|exact za rfl)|(simp -dsimp [h2])));(all_goals try with_reducible refine za ?_)
    rw[ht]
theorem zl4 (p q:List EV)(hp:PthS p)(hq:PthS q):ACalls prog 101 [.c (.d (zG p)),.c (.d (zG q))] (fun r=>r=aV (.bool (eqEs p q))):=by
 have b1:p.length≤9223372036854775807:=by have:=hp.1;omega
 have b2:q.length≤9223372036854775807:=by have:=hq.1;omega
 have c1:=znw p q hp hq
 by_cases hl:p.length=q.length
 ·have e:zeB p q=eqEs p q:=by unfold zeB;rw[←hl,List.take_length]
  rw[e] at c1
  have hli:(p.length:Int)=q.length:=by omega
  refine ze [] func101 (by kernel_rfl) rfl ntmps101 results101 (Nat.le_of_ble_eq_true (by kernel_rfl)) ?_;intro hok w0 S0
  clear hok
  (repeat' (first|(with_reducible first|refine zj (fun _=>?_) (fun _=>?_)|refine zi (fun _=>?_) (fun _=>?_)|refine zl (c1) (by first|rfl|(simp -dsimp [b1,b2,hl,hli];done)) ?_|refine zk zb (by kernel_rfl) ?_|exact za rfl)|(simp -dsimp [b1,b2,hl,hli])));(all_goals try with_reducible refine za ?_)
 ·have e:eqEs p q=false:=by rw[←Bool.not_eq_true,zfc];exact fun h=>hl h.1
  have hli:¬(p.length:Int)=q.length:=by omega
  rw[e]
  refine ze [] func101 (by kernel_rfl) rfl ntmps101 results101 (Nat.le_of_ble_eq_true (by kernel_rfl)) ?_;intro hok w0 S0
  clear hok
  (repeat' (first|(with_reducible first|refine zj (fun _=>?_) (fun _=>?_)|refine zi (fun _=>?_) (fun _=>?_)|refine zk zb (by kernel_rfl) ?_|exact za rfl)|(simp -dsimp [b1,b2,hl,hli])));(all_goals try with_reducible refine za ?_)
theorem ztA (a b:List (List EV))(la:a.length*24≤140737488351232)(lb:b.length*24≤140737488351232)(ha:∀p∈a,PthS p)(hb:∀p∈b,PthS p):ACalls prog 40 [.c (.d (zM a)),.c (.d (zM b))] (fun r=>r=aV (.bool (zhi a b))):=by
 have b1:a.length≤9223372036854775807:=by omega
 have b2:b.length≤9223372036854775807:=by omega
 by_cases hl:a.length=b.length
 ·have hli:(a.length:Int)=b.length:=by omega
  refine ze [(6,([8],[(0,[]),(1,[]),(2,[]),(3,[]),(4,[]),(5,[]),(6,[]),(7,[]),(8,[]),(9,[])]))] func40 (by kernel_rfl) rfl ntmps40 results40 (Nat.le_of_ble_eq_true (by kernel_rfl)) ?_;intro hok w0 S0
  clear hok
  (repeat' (first|(with_reducible first|refine zj (fun _=>?_) (fun _=>?_)|refine zi (fun _=>?_) (fun _=>?_)|refine zk zb (by kernel_rfl) ?_|exact za rfl)|(simp -dsimp [b1,b2,hl])));(all_goals try with_reducible refine za ?_)
  refine zC (fun i:Nat=>⟨[(0,.c (.d (zM a))),(1,.c (.d (zM b))),(12,aI b.length),(13,aI i)],[]⟩) (fun i=>i≤b.length∧∀(j:Nat) (h:j<a.length) (h':j<b.length),j<i→eqEs a[j] b[j]=true) (fun i=>b.length - i) 0 ?_ ⟨Nat.zero_le _,fun j _ _ h=>by omega⟩ ?_
  ·exact Weak.same (by simp -dsimp [hl]) (by simp -dsimp [hl]) (by first|rfl|(simp [zf,Av.ids,Ow.ids,Cl.ids,Go.Smd.keys];done))
  ·rintro i ⟨hi,hall⟩ K hK
   by_cases h2:i<b.length
   ·have h1:i<a.length:=by omega
    have hw:IntKind.wrap .i64 ((i:Int)+1)=((i+1:Nat):Int):=by rw[zn]<;>omega
    have c1:=zl4 a[i] b[i] (ha _ (List.getElem_mem h1)) (hb _ (List.getElem_mem h2))
    cases he:eqEs a[i] b[i] with
    |true=>
     rw[he] at c1
     (repeat' (first|(with_reducible first|refine zj (fun _=>?_) (fun _=>?_)|refine zi (fun _=>?_) (fun _=>?_)|refine zl (c1) (by first|rfl|(simp -dsimp [b1,b2,h1,h2,hw];done)) ?_|(refine zA (c1) rfl ?_ ?_ ?_;iterate 2 exact by first|rfl|(simp -dsimp [b1,b2,h1,h2,hw];done))|refine zk zb (by kernel_rfl) ?_|exact za rfl)|(simp -dsimp [b1,b2,h1,h2,hw])));(all_goals try with_reducible refine za ?_)
     refine hK _ (i+1) ?_ ⟨by omega,fun j k1 k2 k3=>?_⟩ (by omega)
     ·exact Weak.same (by simp -dsimp) (by simp -dsimp) (by first|rfl|(simp [zf,Av.ids,Ow.ids,Cl.ids,Go.Smd.keys];done))
     ·by_cases e:j=i
      ·subst e;exact he
      ·exact hall j k1 k2 (by omega)
    |false=>
     rw[he] at c1
     have hf:zhi a b=false:=by
      rw[←Bool.not_eq_true,zff]
      rintro ⟨_,h⟩
      have:=h i h1 h2
      rw[he] at this;cases this
     (repeat' (first|(with_reducible first|refine zj (fun _=>?_) (fun _=>?_)|refine zi (fun _=>?_) (fun _=>?_)|refine zl (c1) (by first|rfl|(simp -dsimp [b1,b2,h1,h2,hw];done)) ?_|(refine zA (c1) rfl ?_ ?_ ?_;iterate 2 exact by first|rfl|(simp -dsimp [b1,b2,h1,h2,hw];done))|refine zk zb (by kernel_rfl) ?_|exact za rfl)|(simp -dsimp [b1,b2,h1,h2,hw])));(all_goals try with_reducible refine za ?_)
     rw[hf]
   ·have ht:zhi a b=true:=zff.2 ⟨hl,fun j k1 k2=>hall j k1 k2 (by omega)⟩
    (repeat' (first|(with_reducible first|refine zj (fun _=>?_) (fun _=>?_)|refine zi (fun _=>?_) (fun _=>?_)|refine zk zb (by kernel_rfl) ?_|exact za rfl)|(simp -dsimp [h2])));(all_goals try with_reducible refine za ?_)
    rw[ht]
 ·have e:zhi a b=false:=by rw[←Bool.not_eq_true,zff];exact fun h=>hl h.1
  have hli:¬(a.length:Int)=b.length:=by omega
  rw[e]
  refine ze [(6,([8],[(0,[]),(1,[]),(2,[]),(3,[]),(4,[]),(5,[]),(6,[]),(7,[]),(8,[]),(9,[])]))] func40 (by kernel_rfl) rfl ntmps40 results40 (Nat.le_of_ble_eq_true (by kernel_rfl)) ?_;intro hok w0 S0
  clear hok
  (repeat' (first|(with_reducible first|refine zj (fun _=>?_) (fun _=>?_)|refine zi (fun _=>?_) (fun _=>?_)|refine zk zb (by kernel_rfl) ?_|exact za rfl)|(simp -dsimp [b1,b2,hl,hli])));(all_goals try with_reducible refine za ?_)
theorem zxc (a b:List (List EV))(hl:(a.length+b.length)*24≤140737488351232):ACalls prog 31 [.c (.d (zM a)),.c (.d (zM b))] (fun r=>r= .c (.d (zM (a++b)))):=by
 have b1:a.length≤9223372036854775807:=by omega
 have b2:b.length≤9223372036854775807:=by omega
 have b3:a.length*24≤140737488351232:=by omega
 refine ze [] func31 (by kernel_rfl) rfl ntmps31 results31 (Nat.le_of_ble_eq_true (by kernel_rfl)) ?_;intro hok w0 S0
 clear hok
 (repeat' (first|(with_reducible first|refine zj (fun _=>?_) (fun _=>?_)|refine zi (fun _=>?_) (fun _=>?_)|refine zk zb (by kernel_rfl) ?_|exact za rfl)|(simp -dsimp [b1,b2,b3,hl])));(all_goals try with_reducible refine za ?_)
 all_goals simp [zM]
theorem ACalls.pre1a {P:Program}{f:FuncId}{xs ys:List D}{xa:List Av}{R:Av→Prop}(h:ACalls P f (.c (.d (.pt xs))::xa) R):ACalls P f (.c (.d (.pt (xs++ys)))::xa) R:=h.args fun w S vs ha=>by
 obtain ⟨v,vs,rfl,h1,ha⟩:=ha.inv
 exact .cons (RepD.pre (show RepD P w S _ v from h1)) ha
theorem ztB (p q:LE)(hp:Z5 p)(hq:Z5 q):ACalls prog 202 [leA p,leA q] (fun r=>r=aI (ZY p q)):=by
 have h:=zcK p q hp hq
 have four:∀e:LE,∃e0 e1 e2 e3,leA e= .agg [.d e0,.d e1,.d e2,.d e3]:=fun e=>by cases e<;>exact ⟨_,_,_,_,rfl⟩
 obtain ⟨p0,p1,p2,p3,hp'⟩:=four p
 obtain ⟨q0,q1,q2,q3,hq'⟩:=four q
 rw[hp',hq'] at h ⊢
 refine ze [] func202 (by kernel_rfl) rfl ntmps202 results202 (Nat.le_of_ble_eq_true (by kernel_rfl)) ?_;intro hok w0 S0
 clear hok
 (repeat' (first|(with_reducible first|refine zj (fun _=>?_) (fun _=>?_)|refine zi (fun _=>?_) (fun _=>?_)|refine zl (h) (by first|rfl|(simp -dsimp;done)) ?_|refine zk zb (by kernel_rfl) ?_|exact za rfl)|(simp -dsimp)));(all_goals try with_reducible refine za ?_)
theorem zvp (A:List EV)(e:EV)(hl:A.length*32≤140737488351232)(hA:∀x∈A,GoodE x)(sA:zaQ A)(he:GoodE e):
  ACalls prog 158 [.c (.d (.pt [.sl tPE (A.map eD)])),leA (zR e)] (fun r=>r=aV (.bool (zas e A))):=by
 have hB:=zlP sA hA he
 have hI:=zot hA he
 have hm:zas e A=true↔zom (A.map zR) (zR e) (lbE e A):=by
  rw[hI,zbY,zne he.o (fun x hx=>(hA x hx).o) sA]
 have hb:=zg7 202 (A.map zR) (zR e) (lbE e A) (zas e A) (by simpa using hl) (fun x hx=>ztB x _ (zl3 hA x hx) he.f.le) hB hm
 rw[zpD] at hb
 obtain ⟨e0,e1,e2,e3,he1,he'⟩:=zbw (zR e)
 rw[he'] at hb ⊢
 generalize A.map eD=X at hb ⊢
 generalize zas e A=b at hb ⊢
 refine ze [] func158 (by kernel_rfl) rfl ntmps158 results158 (Nat.le_of_ble_eq_true (by kernel_rfl)) ?_;intro hok w0 S0
 clear hok
 (repeat' (first|(with_reducible first|refine zj (fun _=>?_) (fun _=>?_)|refine zi (fun _=>?_) (fun _=>?_)|refine zk zb (by kernel_rfl) ?_|exact za rfl)|(simp -dsimp)));(all_goals try with_reducible refine za ?_)
 refine zcT ?_
 refine zfS zb [0,1,2,3,4,5,6,7,8,9,10] [(8,?m8),(9,?m9),(10,?m10),(11,?m11),(12,?m12),(13,?m13),(7,?m7),(14,?m14),(15,?m15),(5,?m5),(6,?m6)] [(5,?o5)] ?hok ?hst ?hk
 case' hst=>refine ⟨?hv0,⟨_,rfl,?he0⟩,?hv1⟩
 case hv0=>
  iterate 5 refine ⟨.inr ⟨_,_,rfl,rfl,by simp -dsimp [zg]<;>with_reducible rfl⟩,?_⟩
  iterate 6 refine ⟨.inl (by kernel_rfl),?_⟩
  exact trivial
 case' he0=>(with_reducible apply zso (d:=13) (hR:=hb));(case hp=>rfl);(case hd=>rfl);(case hdk=>rfl);(case hc=>simp -dsimp [zg]<;>(first|done|rfl|exact ⟨rfl,rfl⟩|exact ⟨rfl,rfl,rfl⟩));(case ha=>simp -dsimp [zg]);(case hpl=>rfl);(case hoo=>rfl);(case hv=>simp -dsimp [zg]<;>with_reducible rfl)
 case hv1=>
  iterate 6 refine ⟨.inl (by kernel_rfl),?_⟩
  iterate 5 refine ⟨.inr ⟨_,_,rfl,rfl,by simp -dsimp [zg]<;>with_reducible rfl⟩,?_⟩
  exact trivial
 case hok=>kernel_rfl
 refine ⟨rfl,?_⟩
 (repeat' (first|(with_reducible first|refine zj (fun _=>?_) (fun _=>?_)|refine zi (fun _=>?_) (fun _=>?_)|refine zk zb (by kernel_rfl) ?_|exact za rfl)|(simp -dsimp)));(all_goals try with_reducible refine za ?_)
def PK.drop:Nat→PK→PK
 |0,k=>k
 |_+1,.nil=>.nil
 |i+1,.cons _ _ r=>r.drop i
theorem PK.drop_cons:∀{k:PK} {i:Nat}(h:i<k.es.length)(h':i<k.ss.length) ,k.drop i= .cons k.es[i] k.ss[i] (k.drop (i+1))
 | .nil,i,h,_=>by simp [PK.es] at h
 | .cons e s r,0,_,_=>by simp only [PK.drop,PK.es,PK.ss,List.getElem_cons_zero]
 | .cons e s r,i+1,h,h'=>by
  have:=PK.drop_cons (k:=r) (i:=i) (by simpa [PK.es] using h) (by simpa [PK.ss] using h')
  simp only [PK.es,PK.ss,List.getElem_cons_succ]
  exact this
theorem PK.drop_all:∀{k:PK} {i:Nat} ,k.es.length≤i→k.drop i= .nil
 | .nil,0,_=>rfl
 | .nil,i+1,_=>rfl
 | .cons e s r,0,h=>by simp [PK.es] at h
 | .cons e s r,i+1,h=>by
  simp only [PK.es,List.length_cons] at h
  exact PK.drop_all (k:=r) (by omega)
theorem znx {e:EV}(he:OE e):∀{k:PK},(∀x∈k.es,OE x)→zaQ k.es→∀(j:Nat) (h:j<k.es.length) (h':j<k.ss.length),zt k.es[j] e=0→Zq e k=some k.ss[j]
 | .nil,_,_,j,h,_,_=>by simp [PK.es] at h
 | .cons x s r,ho,hs,0,_,_,h0=>by
  simp only [PK.es,List.getElem_cons_zero] at h0
  simp only [Zq,PK.ss,List.getElem_cons_zero];rw[if_pos h0]
 | .cons x s r,ho,hs,j+1,h,h',h0=>by
  simp only [PK.es] at hs
  have hs:=List.pairwise_cons.1 hs
  have h1:j<r.es.length:=by simpa [PK.es] using h
  have h2:j<r.ss.length:=by simpa [PK.ss] using h'
  simp only [PK.es,List.getElem_cons_succ] at h0
  have hm:=List.getElem_mem h1
  have hx:OE x:=ho x (by simp [PK.es])
  have hj:OE r.es[j]:=ho _ (by simp [PK.es])
  have k1:=hs.1 _ hm
  have k2:zt x e<0:=zo.lt_le hx hj he k1 (by omega)
  simp only [Zq,PK.ss,List.getElem_cons_succ]
  rw[if_neg (by omega)]
  exact znx he (fun y hy=>ho y (by simp [PK.es,hy])) hs.2 j h1 h2 h0
theorem zny {e:EV}{k:PK}{j:Nat}(h1:∀(a:Nat) (h:a<k.es.length),a<j→zt k.es[a] e<0)(h2:∀(a:Nat) (h:a<k.es.length),j≤a→0<zt k.es[a] e):Zq e k=none:=by
 rw[zeA,←Bool.not_eq_true,zbY]
 rintro ⟨x,hx,h0⟩
 obtain ⟨a,ha,rfl⟩:=List.getElem_of_mem hx
 rcases Nat.lt_or_ge a j with h|h
 ·have:=h1 a ha h;omega
 ·have:=h2 a ha h;omega
def MergeI (A B:List EV)(i j:Nat):Prop:=∀(a b:Nat) (ha:a<B.length) (hb:b<A.length),a<j→i≤b→zt B[a] A[b]<0
theorem MergeI.zero (A B:List EV):MergeI A B 0 0:=fun a b _ _ h=>by omega
section
variable {A B:List EV} {i j:Nat}
theorem MergeI.left (h:MergeI A B i j):MergeI A B (i+1) j:=fun a b ha hb h1 h2=>h a b ha hb h1 (by omega)
theorem zpE {A:List EV}(oA:∀x∈A,OE x)(sA:zaQ A){i b:Nat}(hi:i<A.length)(hb:b<A.length)(h:i≤b):zt A[i] A[b]≤0:=by
 rcases Nat.lt_or_eq_of_le h with h|rfl
 ·exact Int.le_of_lt (List.pairwise_iff_getElem.1 sA i b hi hb h)
 ·rw[zo.refl (oA _ (List.getElem_mem hi))];omega
theorem MergeI.right (h:MergeI A B i j)(oA:∀x∈A,OE x)(oB:∀x∈B,OE x)(sA:zaQ A)(hi:i<A.length)(hj:j<B.length)(h0:zt B[j] A[i]<0):MergeI A B i (j+1):=fun a b ha hb h1 h2=>by
 rcases Nat.lt_or_ge a j with h3|h3
 ·exact h a b ha hb h3 h2
 ·have e:a=j:=by omega
  subst e
  exact zo.lt_le (oB _ (List.getElem_mem ha)) (oA _ (List.getElem_mem hi)) (oA _ (List.getElem_mem hb)) h0 (zpE oA sA hi hb h2)
theorem MergeI.both (h:MergeI A B i j)(oA:∀x∈A,OE x)(oB:∀x∈B,OE x)(sA:zaQ A)(hi:i<A.length)(hj:j<B.length)(h0:zt B[j] A[i]=0):MergeI A B (i+1) (j+1):=fun a b ha hb h1 h2=>by
 rcases Nat.lt_or_ge a j with h3|h3
 ·exact h a b ha hb h3 (by omega)
 ·have e:a=j:=by omega
  subst e
  have k:=List.pairwise_iff_getElem.1 sA i b hi hb (by omega)
  exact zo.le_lt (oB _ (List.getElem_mem ha)) (oA _ (List.getElem_mem hi)) (oA _ (List.getElem_mem hb)) (by omega) k
end
theorem MergeI.no {A:List EV}{k:PK}{i j:Nat}(h:MergeI A k.es i j)(oA:∀x∈A,OE x)(oB:∀x∈k.es,OE x)(sB:zaQ k.es)(hi:i<A.length)(h0:∀hj:j<k.es.length,zt A[i] k.es[j]<0):Zq A[i] k=none:=by
 refine zny (j:=j) (fun a ha haj=>h a i ha hi haj (Nat.le_refl _)) fun a ha haj=>?_
 have hj:j<k.es.length:=by omega
 have k1:=zo.lt_le (oA _ (List.getElem_mem hi)) (oB _ (List.getElem_mem hj)) (oB _ (List.getElem_mem ha)) (h0 hj) (zpE oB sB hj ha haj)
 have:=zo.anti A[i] k.es[a] (oA _ (List.getElem_mem hi)) (oB _ (List.getElem_mem ha))
 omega
theorem zvU {o:SOp}{t:PS}{k:PK}{i:Nat}(h:i<k.es.length)(h':i<k.ss.length):pkD (opK o (k.drop i) t)=match opG o t k.es[i] k.ss[i] with|none=>pkD (opK o (k.drop (i+1)) t)|some s'=>(eD k.es[i]++ [.pt (psD s')])::pkD (opK o (k.drop (i+1)) t):=by
 rw[PK.drop_cons h h',ztt]
 cases opG o t k.es[i] k.ss[i] with
 |none=>rfl
 |some s'=>exact ze7 _ _ _
end Go.Smd
end
