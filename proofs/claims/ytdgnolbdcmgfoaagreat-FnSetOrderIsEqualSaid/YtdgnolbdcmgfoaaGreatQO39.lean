/- Part 39 of the proof: Li Lj Kl. -/
import Derived.Test.YtdgnolbdcmgfoaaGreatQO38
import Derived.Test.YtdgnolbdcmgfoaaGreatQO26
set_option linter.unusedVariables false
set_option linter.unusedSimpArgs false
set_option maxRecDepth 100000
set_option maxHeartbeats 8000000
section
namespace Go.Smd
open Go.RowKit Go.Proofs Go.Proofs.Tryz
theorem zjw (e e':EV)(h:EVs e)(h':EVs e'):ACalls prog 27 [evA e,evA e'] (fun r=>r=aV (.bool (zeu e e'))):=by
 obtain ⟨k,s,keys,l,⟨a,b,c,d,e,f⟩,n⟩:=e
 obtain ⟨k',s',keys',l',⟨a',b',c',d',e',f'⟩,n'⟩:=e'
 rw[zeO,zeO]
 exact zjq _ _ _ _ _ _ _ _ _ _ _ _ _ _ _ _ _ _ _ _ _ _ h.hk h.hl h'.hk h'.hl
def zeo (p q:List EV):Bool:=eqEs (p.take q.length) q
theorem zm0 (p q:List EV)(hp:PthS p)(hq:PthS q):ACalls prog 43 [.c (.d (ZT p)),.c (.d (ZT q))] (fun r=>r=aV (.bool (zeo p q))):=by
 have b1:p.length≤9223372036854775807:=by have:=hp.1;omega
 have b2:q.length≤9223372036854775807:=by have:=hq.1;omega
 by_cases hl:p.length<q.length
 ·have hf:zeo p q=false:=by
   unfold zeo
   rw[←Bool.not_eq_true,zcK]
   rintro ⟨h,_⟩
   rw[List.length_take] at h;omega
  rw[hf]
  refine zg [(6,([8],[(0,[]),(1,[]),(2,[]),(3,[]),(4,[]),(5,[]),(6,[]),(7,[]),(8,[]),(9,[])]))] func43 (by kernel_rfl) rfl ntmps43 results43 (Nat.le_of_ble_eq_true (by kernel_rfl)) ?_;intro hok w0 S0
  clear hok
  (repeat' (first|(with_reducible first|refine zl (fun _=>?_) (fun _=>?_)|refine zk (fun _=>?_) (fun _=>?_)|refine zm zd (by kernel_rfl) ?_|exact zc rfl)|(simp -dsimp [b1,b2,hl])));(all_goals try with_reducible refine zc ?_)
 ·have hl':q.length≤p.length:=by omega
  refine zg [(6,([8],[(0,[]),(1,[]),(2,[]),(3,[]),(4,[]),(5,[]),(6,[]),(7,[]),(8,[]),(9,[])]))] func43 (by kernel_rfl) rfl ntmps43 results43 (Nat.le_of_ble_eq_true (by kernel_rfl)) ?_;intro hok w0 S0
  clear hok
  (repeat' (first|(with_reducible first|refine zl (fun _=>?_) (fun _=>?_)|refine zk (fun _=>?_) (fun _=>?_)|refine zm zd (by kernel_rfl) ?_|exact zc rfl)|(simp -dsimp [b1,b2,hl])));(all_goals try with_reducible refine zc ?_)
  refine zJ (fun i:Nat=>⟨[(0,.c (.d (ZT p))),(1,.c (.d (ZT q))),(12,aI q.length),(13,aI i)],[]⟩) (fun i=>i≤q.length∧∀(j:Nat) (h:j<p.length) (h':j<q.length),j<i→zeu p[j] q[j]=true) (fun i=>q.length - i) 0 ?_ ⟨Nat.zero_le _,fun j _ _ h=>by omega⟩ ?_
  ·exact Weak.same (by simp -dsimp) (by simp -dsimp) (by first|rfl|(simp [zj,Av.ids,Ow.ids,Cl.ids,Go.Smd.keys];done))
  ·rintro i ⟨hi,hall⟩ K hK
   by_cases h2:i<q.length
   ·have h1:i<p.length:=by omega
    have hw:IntKind.wrap .i64 ((i:Int)+1)=((i+1:Nat):Int):=by rw[zy]<;>omega
    have c1:=zjw p[i] q[i] (hp.2 _ (List.getElem_mem h1)) (hq.2 _ (List.getElem_mem h2))
    cases he:zeu p[i] q[i] with
    |true=>
     rw[he] at c1
     (repeat' (first|(with_reducible first|refine zl (fun _=>?_) (fun _=>?_)|refine zk (fun _=>?_) (fun _=>?_)|refine zt (c1) (by first|rfl|(simp -dsimp [b1,b2,h1,h2,hw];done)) ?_|(refine Zu (c1) rfl ?_ ?_ ?_;iterate 2 exact by first|rfl|(simp -dsimp [b1,b2,h1,h2,hw];done))|refine zm zd (by kernel_rfl) ?_|exact zc rfl)|(simp -dsimp [b1,b2,h1,h2,hw])));(all_goals try with_reducible refine zc ?_)
     refine hK _ (i+1) ?_ ⟨by omega,fun j k1 k2 k3=>?_⟩ (by omega)
     ·exact Weak.same (by simp -dsimp) (by simp -dsimp) (by first|rfl|(simp [zj,Av.ids,Ow.ids,Cl.ids,Go.Smd.keys];done))
     ·by_cases e:j=i
      ·subst e;exact he
      ·exact hall j k1 k2 (by omega)
    |false=>
     rw[he] at c1
     have hf:zeo p q=false:=by
      unfold zeo
      rw[←Bool.not_eq_true,zcK]
      rintro ⟨_,h⟩
      have:=h i (by rw[List.length_take];omega) h2
      rw[List.getElem_take,he] at this;cases this
     (repeat' (first|(with_reducible first|refine zl (fun _=>?_) (fun _=>?_)|refine zk (fun _=>?_) (fun _=>?_)|refine zt (c1) (by first|rfl|(simp -dsimp [b1,b2,h1,h2,hw];done)) ?_|(refine Zu (c1) rfl ?_ ?_ ?_;iterate 2 exact by first|rfl|(simp -dsimp [b1,b2,h1,h2,hw];done))|refine zm zd (by kernel_rfl) ?_|exact zc rfl)|(simp -dsimp [b1,b2,h1,h2,hw])));(all_goals try with_reducible refine zc ?_)
     rw[hf]
   ·have ht:zeo p q=true:=by
     unfold zeo
     rw[zcK]
     refine ⟨by rw[List.length_take];omega,fun j k1 k2=>?_⟩
     rw[List.getElem_take]
     exact hall j (by omega) k2 (by omega)
    (repeat' (first|(with_reducible first|refine zl (fun _=>?_) (fun _=>?_)|refine zk (fun _=>?_) (fun _=>?_)|refine zm zd (by kernel_rfl) ?_|exact zc rfl)|(simp -dsimp [h2])));(all_goals try with_reducible refine zc ?_)
    rw[ht]
theorem zly (p q:List EV)(hp:PthS p)(hq:PthS q):ACalls prog 101 [.c (.d (ZT p)),.c (.d (ZT q))] (fun r=>r=aV (.bool (eqEs p q))):=by
 have b1:p.length≤9223372036854775807:=by have:=hp.1;omega
 have b2:q.length≤9223372036854775807:=by have:=hq.1;omega
 have c1:=zm0 p q hp hq
 by_cases hl:p.length=q.length
 ·have e:zeo p q=eqEs p q:=by unfold zeo;rw[←hl,List.take_length]
  rw[e] at c1
  have hli:(p.length:Int)=q.length:=by omega
  refine zg [] func101 (by kernel_rfl) rfl ntmps101 results101 (Nat.le_of_ble_eq_true (by kernel_rfl)) ?_;intro hok w0 S0
  clear hok
  (repeat' (first|(with_reducible first|refine zl (fun _=>?_) (fun _=>?_)|refine zk (fun _=>?_) (fun _=>?_)|refine zt (c1) (by first|rfl|(simp -dsimp [b1,b2,hl,hli];done)) ?_|refine zm zd (by kernel_rfl) ?_|exact zc rfl)|(simp -dsimp [b1,b2,hl,hli])));(all_goals try with_reducible refine zc ?_)
 ·have e:eqEs p q=false:=by rw[←Bool.not_eq_true,zcK];exact fun h=>hl h.1
  have hli:¬(p.length:Int)=q.length:=by omega
  rw[e]
  refine zg [] func101 (by kernel_rfl) rfl ntmps101 results101 (Nat.le_of_ble_eq_true (by kernel_rfl)) ?_;intro hok w0 S0
  clear hok
  (repeat' (first|(with_reducible first|refine zl (fun _=>?_) (fun _=>?_)|refine zk (fun _=>?_) (fun _=>?_)|refine zm zd (by kernel_rfl) ?_|exact zc rfl)|(simp -dsimp [b1,b2,hl,hli])));(all_goals try with_reducible refine zc ?_)
theorem zsC (a b:List (List EV))(la:a.length*24≤140737488351232)(lb:b.length*24≤140737488351232)(ha:∀p∈a,PthS p)(hb:∀p∈b,PthS p):ACalls prog 40 [.c (.d (ZY a)),.c (.d (ZY b))] (fun r=>r=aV (.bool (zg2 a b))):=by
 have b1:a.length≤9223372036854775807:=by omega
 have b2:b.length≤9223372036854775807:=by omega
 by_cases hl:a.length=b.length
 ·have hli:(a.length:Int)=b.length:=by omega
  refine zg [(6,([8],[(0,[]),(1,[]),(2,[]),(3,[]),(4,[]),(5,[]),(6,[]),(7,[]),(8,[]),(9,[])]))] func40 (by kernel_rfl) rfl ntmps40 results40 (Nat.le_of_ble_eq_true (by kernel_rfl)) ?_;intro hok w0 S0
  clear hok
  (repeat' (first|(with_reducible first|refine zl (fun _=>?_) (fun _=>?_)|refine zk (fun _=>?_) (fun _=>?_)|refine zm zd (by kernel_rfl) ?_|exact zc rfl)|(simp -dsimp [b1,b2,hl])));(all_goals try with_reducible refine zc ?_)
  refine zJ (fun i:Nat=>⟨[(0,.c (.d (ZY a))),(1,.c (.d (ZY b))),(12,aI b.length),(13,aI i)],[]⟩) (fun i=>i≤b.length∧∀(j:Nat) (h:j<a.length) (h':j<b.length),j<i→eqEs a[j] b[j]=true) (fun i=>b.length - i) 0 ?_ ⟨Nat.zero_le _,fun j _ _ h=>by omega⟩ ?_
  ·exact Weak.same (by simp -dsimp [hl]) (by simp -dsimp [hl]) (by first|rfl|(simp [zj,Av.ids,Ow.ids,Cl.ids,Go.Smd.keys];done))
  ·rintro i ⟨hi,hall⟩ K hK
   by_cases h2:i<b.length
   ·have h1:i<a.length:=by omega
    have hw:IntKind.wrap .i64 ((i:Int)+1)=((i+1:Nat):Int):=by rw[zy]<;>omega
    have c1:=zly a[i] b[i] (ha _ (List.getElem_mem h1)) (hb _ (List.getElem_mem h2))
    cases he:eqEs a[i] b[i] with
    |true=>
     rw[he] at c1
     (repeat' (first|(with_reducible first|refine zl (fun _=>?_) (fun _=>?_)|refine zk (fun _=>?_) (fun _=>?_)|refine zt (c1) (by first|rfl|(simp -dsimp [b1,b2,h1,h2,hw];done)) ?_|(refine Zu (c1) rfl ?_ ?_ ?_;iterate 2 exact by first|rfl|(simp -dsimp [b1,b2,h1,h2,hw];done))|refine zm zd (by kernel_rfl) ?_|exact zc rfl)|(simp -dsimp [b1,b2,h1,h2,hw])));(all_goals try with_reducible refine zc ?_)
     refine hK _ (i+1) ?_ ⟨by omega,fun j k1 k2 k3=>?_⟩ (by omega)
     ·exact Weak.same (by simp -dsimp) (by simp -dsimp) (by first|rfl|(simp [zj,Av.ids,Ow.ids,Cl.ids,Go.Smd.keys];done))
     ·by_cases e:j=i
      ·subst e;exact he
      ·exact hall j k1 k2 (by omega)
    |false=>
     rw[he] at c1
     have hf:zg2 a b=false:=by
      rw[←Bool.not_eq_true,ze5]
      rintro ⟨_,h⟩
      have:=h i h1 h2
      rw[he] at this;cases this
     (repeat' (first|(with_reducible first|refine zl (fun _=>?_) (fun _=>?_)|refine zk (fun _=>?_) (fun _=>?_)|refine zt (c1) (by first|rfl|(simp -dsimp [b1,b2,h1,h2,hw];done)) ?_|(refine Zu (c1) rfl ?_ ?_ ?_;iterate 2 exact by first|rfl|(simp -dsimp [b1,b2,h1,h2,hw];done))|refine zm zd (by kernel_rfl) ?_|exact zc rfl)|(simp -dsimp [b1,b2,h1,h2,hw])));(all_goals try with_reducible refine zc ?_)
     rw[hf]
   ·have ht:zg2 a b=true:=ze5.2 ⟨hl,fun j k1 k2=>hall j k1 k2 (by omega)⟩
    (repeat' (first|(with_reducible first|refine zl (fun _=>?_) (fun _=>?_)|refine zk (fun _=>?_) (fun _=>?_)|refine zm zd (by kernel_rfl) ?_|exact zc rfl)|(simp -dsimp [h2])));(all_goals try with_reducible refine zc ?_)
    rw[ht]
 ·have e:zg2 a b=false:=by rw[←Bool.not_eq_true,ze5];exact fun h=>hl h.1
  have hli:¬(a.length:Int)=b.length:=by omega
  rw[e]
  refine zg [(6,([8],[(0,[]),(1,[]),(2,[]),(3,[]),(4,[]),(5,[]),(6,[]),(7,[]),(8,[]),(9,[])]))] func40 (by kernel_rfl) rfl ntmps40 results40 (Nat.le_of_ble_eq_true (by kernel_rfl)) ?_;intro hok w0 S0
  clear hok
  (repeat' (first|(with_reducible first|refine zl (fun _=>?_) (fun _=>?_)|refine zk (fun _=>?_) (fun _=>?_)|refine zm zd (by kernel_rfl) ?_|exact zc rfl)|(simp -dsimp [b1,b2,hl,hli])));(all_goals try with_reducible refine zc ?_)
theorem zv0 (a b:List (List EV))(hl:(a.length+b.length)*24≤140737488351232):ACalls prog 31 [.c (.d (ZY a)),.c (.d (ZY b))] (fun r=>r= .c (.d (ZY (a++b)))):=by
 have b1:a.length≤9223372036854775807:=by omega
 have b2:b.length≤9223372036854775807:=by omega
 have b3:a.length*24≤140737488351232:=by omega
 refine zg [] func31 (by kernel_rfl) rfl ntmps31 results31 (Nat.le_of_ble_eq_true (by kernel_rfl)) ?_;intro hok w0 S0
 clear hok
 (repeat' (first|(with_reducible first|refine zl (fun _=>?_) (fun _=>?_)|refine zk (fun _=>?_) (fun _=>?_)|refine zm zd (by kernel_rfl) ?_|exact zc rfl)|(simp -dsimp [b1,b2,b3,hl])));(all_goals try with_reducible refine zc ?_)
 all_goals simp [ZY]
def PK.drop:Nat→PK→PK
 |0,k=>k
 |_+1,.nil=>.nil
 |i+1,.cons _ _ r=>r.drop i
def MergeI (A B:List EV)(i j:Nat):Prop:=∀(a b:Nat) (ha:a<B.length) (hb:b<A.length),a<j→i≤b→zG B[a] A[b]<0
theorem MergeI.zero (A B:List EV):MergeI A B 0 0:=fun a b _ _ h=>by omega
theorem zuh (N:Nat)(hN:N≤3000000000000)(ms:List EV)(ks:PK)(ok:OkS N (.mk ms ks))(h:∀s∈ks.ss,CIter s):CIter (.mk ms ks):=by
 intro v ver R p hv hp hd hb
 simp only [OkS] at ok
 simp only [PS.depth] at hd
 simp only [PS.size] at hb ⊢
 simp only [PS.list]
 have c1:=(zsy v ver R p ms hv hp ok.1 (by omega) (by omega) (by omega)).pre1 (ys:=[.sl tSN (pkD ks)])
 have hRl:(R++ze4 p ms).length=R.length+ms.length:=by simp
 have c2':=fun (v':Value) (hv':IsPin v' p.length)=>zue ks v' (ver+ms.length) (R++ze4 p ms) p hv' hp (by omega) (by omega) (by rw[hRl];omega) ok.2.2.2.1 h
 have c2:=c2' v hv
 have c3:=zi8 0 c2'
 have e1:R++ze4 p ms++zcL p ks.list=R++zcL p (ms.map (fun e=>[e])++ks.list):=by rw[zp5,zcL,zcL,zcL,List.map_append,List.append_assoc]
 have e2:ver+ms.length+ks.size=ver+(ms.length+ks.size):=by omega
 rw[e1,e2] at c2 c3
 obtain ⟨R2,hR2⟩:∃R2,R2=R++zcL p (ms.map (fun e=>[e])++ks.list):=⟨_,rfl⟩
 obtain ⟨R1,hR1⟩:∃R1,R1=R++ze4 p ms:=⟨_,rfl⟩
 obtain ⟨V1,hV1⟩:∃V1,V1=ver+ms.length:=⟨_,rfl⟩
 obtain ⟨V2,hV2⟩:∃V2,V2=ver+(ms.length+ks.size):=⟨_,rfl⟩
 rw[←hR1,←hV1] at c1 c2 c3
 rw[←hR2,←hV2] at c2 c3
 rw[←hR2,←hV2,zgW]
 simp only [List.cons_append,List.nil_append] at c1
 unfold zlw at c1
 unfold zgt at c2 ⊢
 obtain ⟨X,hX⟩:∃X,X=p.map eD:=⟨_,rfl⟩
 rw[←hX] at c1 c2 ⊢
 clear c2'
 refine AProc.drop (R:=fun r o=>r= .tup []∧∀p∈ [(1000000002,Ow.cells [.gs 1000000003 V2] zdx),(1000000003,.arr V2 tSP R2),(1000000004,ze3),(1000000005,.clo (.pin v tPE X) [])],ze o p.1=some p.2) ?_ fun r o h=>⟨_,⟨h.1,rfl⟩,h.2,by first|rfl|(simp [zj,Av.ids,Ow.ids,Cl.ids,Go.Smd.keys];done),by rw[h.1];rfl⟩
 have lf:prog.lay tFP=some (1,false):=by kernel_rfl
 have ct:Z2 prog tFP= [none]:=by kernel_rfl
 have ct2:Z2 prog 255= [none]:=by kernel_rfl
 rcases id hv with ⟨rfl,h0⟩|⟨g,cap,rfl,hcap⟩
 ·have hp0:p= []:=List.eq_nil_of_length_eq_zero h0
  subst hp0
  have hX0:X= []:=hX
  subst hX0
  unfold zmX at c3
  simp only [List.map_nil] at c3
  generalize ms.map eD=A at c1 ⊢
  refine zc3 [] func195 (by kernel_rfl) rfl ntmps195 results195 (Nat.le_of_ble_eq_true (by kernel_rfl)) ?_;intro hok w0 S0 hpin
  (repeat' (first|(with_reducible first|refine zl (fun _=>?_) (fun _=>?_)|refine zk (fun _=>?_) (fun _=>?_))|((with_reducible apply zbZ (ρ:=[(1000000000,5),(1000000001,4),(1000000002,1000000002),(1000000003,1000000003),(1000000004,1000000004),(1000000005,1000000005),(1000000006,9)]) 7 (c1));(case hc=>simp -dsimp [ct2]<;>first|exact ⟨rfl,rfl,rfl⟩|exact ⟨rfl,rfl⟩|done);(case hx=>simp -dsimp [ct2]<;>with_reducible rfl);(case ho=>simp -dsimp [ct2]);(case hh=>simp -dsimp [ct2]);(case hb=>simp -dsimp [ct2]))|(with_reducible first|refine zm zd (by kernel_rfl) ?_|exact zc rfl)|(simp -dsimp [ct2])));(all_goals try with_reducible refine zc ?_)
  refine zvY (t':=()) (tl':=[(0,.c (.d (.pt [.sl tPE A,.sl tSN (pkD ks)]))),(4,.c (.own 4 0)),(5,.c (.own 5 0))]) (hl':=[(77,.arr 0 tPE []),(4,.cells [.gs 77 0] tLP),(5,.cells [.fn 1000000004] tFP),(1000000002,.cells [.gs 1000000003 V1] zdx),(1000000003,.arr V1 tSP R1),(1000000004,ze3),(1000000005,.clo (.pin (.slice none 0 0) tPE []) [])]) (Weak.trans (Weak.adopt (z:=4) (id:=77) (T:=tLP) (E:=tPE) rfl rfl (by decide)) ?_) ?_
  ·exact Weak.same (by simp -dsimp) (by simp -dsimp) (by first|rfl|(simp [zj,Av.ids,Ow.ids,Cl.ids,Go.Smd.keys];done))
  ·refine zdH ?_
   refine zaF zd [[],[0],[0,1],[],[],[0,1,2,3,4]] [0,1,2,3,4,5] [5] [([],⟨[(11,?m11u1),(12,?m12u1),(13,?m13u1),(14,?m14u1),(15,?m15u1),(16,?m16u1)],?bu1,?o0u1⟩),([5],⟨[(11,?m11u1),(12,?m12u1),(13,?m13u1),(14,?m14u1),(15,?m15u1),(16,?m16u1)],?bu1,?o1u1⟩)] ?hoku1 rfl rfl ?hbu1 ?hou1 ?hstu1 ?hku1
   case' hbu1=>rfl
   case' hou1=>rfl
   case' hstu1=>refine ⟨⟨?v0u1,?s0u1⟩,⟨⟨?v1u1,?s1u1⟩,True.intro⟩⟩
   case v0u1=>
    iterate 5 refine ⟨.inr ⟨_,rfl,zA (ZZ rfl rfl (by simp -dsimp [zi,lf,ct]<;>with_reducible rfl))⟩,?_⟩
    refine ⟨.inl (by kernel_rfl),?_⟩
    exact True.intro
   case' s0u1=>
    refine ⟨.inr ⟨_,_,rfl,rfl,Zv (zol (d:=16) (ρ:=[(1000000002,1000000002),(1000000003,1000000003),(1000000004,1000000004),(1000000005,77)]) (t:=5) (hR:=c3) (hp:=rfl) (hd:=rfl) (hdk:=rfl) (hc:=by simp -dsimp [zi,lf,ct]<;>(first|done|rfl|exact ⟨rfl,rfl⟩|exact ⟨rfl,rfl,rfl⟩)) (hx:=by simp -dsimp [zi,lf,ct]<;>with_reducible rfl) (ho:=by simp -dsimp [zi,lf,ct]) (hh:=by simp -dsimp [zi,lf,ct]) (hb:=by simp -dsimp [zi,lf,ct]) (h1:=by simp -dsimp [zi,lf,ct]<;>with_reducible rfl) (hv:=by simp -dsimp [zi,lf,ct]<;>with_reducible rfl) (hfix:= ?hf5k0u1)) (by simp -dsimp [zi,ZK,zbQ,lf,ct]<;>with_reducible rfl)⟩,?_⟩
    rotate_left
    exact True.intro
   case v1u1=>
    iterate 6 refine ⟨.inl (by kernel_rfl),?_⟩
    exact True.intro
   case s1u1=>
    refine ⟨.inl (by kernel_rfl),?_⟩
    exact True.intro
   case s0u1=>simp -dsimp [zi,lf,ct]
   case hoku1=>kernel_rfl
   refine ⟨rfl,?_⟩
   (repeat' (first|(with_reducible first|refine zl (fun _=>?_) (fun _=>?_)|refine zk (fun _=>?_) (fun _=>?_)|refine zm zd (by kernel_rfl) ?_|exact zc rfl)|(simp -dsimp)));(all_goals try with_reducible refine zc ?_)
   exact ⟨rfl,by simp [ze]⟩
 ·refine zc3 [] func195 (by kernel_rfl) rfl ntmps195 results195 (Nat.le_of_ble_eq_true (by kernel_rfl)) ?_;intro hok w0 S0 hpin
  (repeat' (first|(with_reducible first|refine zl (fun _=>?_) (fun _=>?_)|refine zk (fun _=>?_) (fun _=>?_))|((with_reducible apply zbZ (ρ:=[(1000000000,5),(1000000001,4),(1000000002,1000000002),(1000000003,1000000003),(1000000004,1000000004),(1000000005,1000000005),(1000000006,9)]) 7 (c1));(case hc=>simp -dsimp [ct2]<;>first|exact ⟨rfl,rfl,rfl⟩|exact ⟨rfl,rfl⟩|done);(case hx=>simp -dsimp [ct2]<;>with_reducible rfl);(case ho=>simp -dsimp [ct2]);(case hh=>simp -dsimp [ct2]);(case hb=>simp -dsimp [ct2]))|(with_reducible first|refine zm zd (by kernel_rfl) ?_|exact zc rfl)|(simp -dsimp [ct2])));(all_goals try with_reducible refine zc ?_)
  refine zdH ?_
  refine zaF zd [[],[0],[0,1],[],[],[0,1,2,3,4]] [0,1,2,3,4,5] [5] [([],⟨[(11,?m11u2),(12,?m12u2),(13,?m13u2),(14,?m14u2),(15,?m15u2),(16,?m16u2)],?bu2,?o0u2⟩),([5],⟨[(11,?m11u2),(12,?m12u2),(13,?m13u2),(14,?m14u2),(15,?m15u2),(16,?m16u2)],?bu2,?o1u2⟩)] ?hoku2 rfl rfl ?hbu2 ?hou2 ?hstu2 ?hku2
  case' hbu2=>rfl
  case' hou2=>rfl
  case' hstu2=>refine ⟨⟨?v0u2,?s0u2⟩,⟨⟨?v1u2,?s1u2⟩,True.intro⟩⟩
  case v0u2=>
   iterate 5 refine ⟨.inr ⟨_,rfl,zA (ZZ rfl rfl (by simp -dsimp [zi,lf,ct]<;>with_reducible rfl))⟩,?_⟩
   refine ⟨.inl (by kernel_rfl),?_⟩
   exact True.intro
  case' s0u2=>
   refine ⟨.inr ⟨_,_,rfl,rfl,Zv (zol (d:=16) (ρ:=[(1000000002,1000000002),(1000000003,1000000003),(1000000004,1000000004),(1000000005,1000000005)]) (t:=5) (hR:=c2) (hp:=rfl) (hd:=rfl) (hdk:=rfl) (hc:=by simp -dsimp [zi,lf,ct]<;>(first|done|rfl|exact ⟨rfl,rfl⟩|exact ⟨rfl,rfl,rfl⟩)) (hx:=by simp -dsimp [zi,lf,ct]<;>with_reducible rfl) (ho:=by simp -dsimp [zi,lf,ct]) (hh:=by simp -dsimp [zi,lf,ct]) (hb:=by simp -dsimp [zi,lf,ct]) (h1:=by simp -dsimp [zi,lf,ct]<;>with_reducible rfl) (hv:=by simp -dsimp [zi,lf,ct]<;>with_reducible rfl) (hfix:= ?hf5k0u2)) (by simp -dsimp [zi,ZK,zbQ,lf,ct]<;>with_reducible rfl)⟩,?_⟩
   rotate_left
   exact True.intro
  case v1u2=>
   iterate 6 refine ⟨.inl (by kernel_rfl),?_⟩
   exact True.intro
  case s1u2=>
   refine ⟨.inl (by kernel_rfl),?_⟩
   exact True.intro
  case s0u2=>simp -dsimp [zi,lf,ct]
  case hoku2=>kernel_rfl
  refine ⟨rfl,?_⟩
  (repeat' (first|(with_reducible first|refine zl (fun _=>?_) (fun _=>?_)|refine zk (fun _=>?_) (fun _=>?_)|refine zm zd (by kernel_rfl) ?_|exact zc rfl)|(simp -dsimp)));(all_goals try with_reducible refine zc ?_)
  exact ⟨rfl,by simp [ze]⟩
theorem zui (N:Nat)(hN:N≤3000000000000):∀s:PS,OkS N s→CIter s:=
 ziY fun ms ks ih ok=>zuh N hN ms ks ok fun s hs=>ih s hs (by simp only [OkS] at ok;exact ok.2.2.2.2.2.2.all s hs)
theorem zqa {P:Program}{f:FuncId}{fn:Func}{c:Code}{args:List Av}{own:List (Nat×Ow)}{R:Av→List (Nat×Ow)→Prop}{N:Nat}{rs:List ResultVar}(sc:Sch)(hf:P.funcs[f]? =some fn)(hn:(fn.name== "runtime.NumGoroutine")=false)(hb:fn.body=some c)(hN:fn.ntmps=N)(hrs:fn.results=rs.toArray)(hl:args.length≤N)
  (h:(∀x∈args,x.isD=true→okA P x)→∀w0 S0,∃σ',Weak P N w0 S0 ⟨Z6 0 args,own⟩ σ'∧ex P N w0 S0 (zj0 P rs R) sc [.code c] () 100000 σ'):AProc P f args own R:=
 zf2 hf hn hb hN hrs hl fun hok w0 S0=>fun β a w s=>by
  obtain ⟨σ',hw,hx⟩:=h hok w0 S0
  exact (AWp.weak hw ((zl7 hx).mono fun _ _=>zil)) β a w s
abbrev zoU:Ow:=.clo (.fn 146) [.own 1000000000 0]
theorem zlz (N:Nat)(hN:N≤3000000000000)(s:PS)(ok:OkS N s)(hd:s.depth*168≤140737488351232)(hs:s.size*24≤140737488351232):
  AProc prog 145 [.c (.d (.pt (psD s))),.c (.fn 1000000002)] [(1000000000,.cells [.d (.v (.slice none 0 0))] zdx),(1000000002,zoU)]
   (fun r own'=>r= .tup []∧own'= [(1000000000,.cells [.gs 77 s.size] zdx),(77,.arr s.size tSP (s.list.map fun q=>[ZT (q.map cE)])),(1000000002,zoU)]):=by
 have c1:=(zui N hN s ok).unpin 0 0 [] [] (by simp) (by simpa using hd) (by simpa using hs)
 unfold zmX zcL at c1
 simp only [List.nil_append,Nat.zero_add,List.map_nil] at c1
 obtain ⟨M,K,hX⟩:∃M K,psD s= [.sl tPE M,.sl tSN K]:=by cases s;exact ⟨_,_,zgW _ _⟩
 rw[hX] at c1 ⊢
 generalize (s.list.map fun q=>[ZT (q.map cE)])=Q at c1 ⊢
 generalize s.size=z at c1 ⊢
 have ct:Z2 prog tFP= [none]:=by kernel_rfl
 refine AProc.drop (R:=fun r o=>r= .tup []∧∀p∈ [(1000000000,Ow.cells [.gs 77 z] zdx),(77,.arr z tSP Q),(1000000002,zoU)],ze o p.1=some p.2) ?_ fun r o h=>⟨_,⟨h.1,rfl⟩,h.2,by first|rfl|(simp [zj,Av.ids,Ow.ids,Cl.ids,Go.Smd.keys];done),by rw[h.1];rfl⟩
 refine zqa [] func145 (by kernel_rfl) rfl ntmps145 results145 (Nat.le_of_ble_eq_true (by kernel_rfl)) ?_;intro hok w0 S0
 refine ⟨⟨[(0,.c (.d (.pt [.sl tPE M,.sl tSN K]))),(1,.c (.fn 1000000002))],[(1000000000,.cells [.gs 77 0] zdx),(77,.arr 0 tSP []),(1000000002,zoU)]⟩,Weak.trans (Weak.adopt (z:=1000000000) (id:=77) (T:=zdx) (E:=tSP) rfl rfl (by decide)) ?_,?_⟩
 ·exact Weak.same (by simp -dsimp) (by simp -dsimp) (by first|rfl|(simp [zj,Av.ids,Ow.ids,Cl.ids,Go.Smd.keys];done))
 ·(repeat' (first|(with_reducible first|refine zl (fun _=>?_) (fun _=>?_)|refine zk (fun _=>?_) (fun _=>?_))|((with_reducible apply zbZ (ρ:=[(1000000002,1000000000),(1000000003,77),(1000000004,1000000002),(1000000005,5)]) 7 (c1));(case hc=>simp -dsimp [ct]<;>first|exact ⟨rfl,rfl,rfl⟩|exact ⟨rfl,rfl⟩|done);(case hx=>simp -dsimp [ct]<;>with_reducible rfl);(case ho=>simp -dsimp [ct]);(case hh=>simp -dsimp [ct]);(case hb=>simp -dsimp [ct]))|(with_reducible first|refine zm zd (by kernel_rfl) ?_|exact zc rfl)|(simp -dsimp [ct])));(all_goals try with_reducible refine zc ?_)
  exact ⟨rfl,by simp [ze]⟩
theorem zqb (N:Nat)(hN:N≤3000000000000)(s:PS)(ok:OkS N s)(hd:s.depth*168≤140737488351232)(hs:s.size*24≤140737488351232):
  ACalls prog 88 [.c (.d (.pt (psD s)))] (fun r=>r= .c (.d (ZY (s.list.map fun q=>q.map cE)))):=by
 have c1:=zlz N hN s ok hd hs
 obtain ⟨M,K,hX⟩:∃M K,psD s= [.sl tPE M,.sl tSN K]:=by cases s;exact ⟨_,_,zgW _ _⟩
 rw[hX] at c1 ⊢
 have e:ZY (s.list.map fun q=>q.map cE)= .sl tSP (s.list.map fun q=>[ZT (q.map cE)]):=by simp only [ZY,List.map_map];rfl
 rw[e]
 generalize (s.list.map fun q=>[ZT (q.map cE)])=Q at c1 ⊢
 generalize s.size=z at c1 ⊢
 have ct:Z2 prog tFP= [none]:=by kernel_rfl
 refine zg [] func88 (by kernel_rfl) rfl ntmps88 results88 (Nat.le_of_ble_eq_true (by kernel_rfl)) ?_;intro hok w0 S0
 clear hok
 (repeat' (first|(with_reducible first|refine zl (fun _=>?_) (fun _=>?_)|refine zk (fun _=>?_) (fun _=>?_))|((with_reducible apply zbZ (ρ:=[(1000000000,3),(1000000002,5)]) 7 (c1));(case hc=>simp -dsimp [ct]<;>first|exact ⟨rfl,rfl,rfl⟩|exact ⟨rfl,rfl⟩|done);(case hx=>simp -dsimp [ct]<;>with_reducible rfl);(case ho=>simp -dsimp [ct]);(case hh=>simp -dsimp [ct]);(case hb=>simp -dsimp [ct]))|(with_reducible first|refine zm zd (by kernel_rfl) ?_|exact zc rfl)|(simp -dsimp [ct])));(all_goals try with_reducible refine zc ?_)
end Go.Smd
end
