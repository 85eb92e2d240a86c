/- Part 42. -/
import Derived.Test.YtdgnolbdcmgfoaaGreatQD41
set_option linter.unusedVariables false
set_option linter.unusedSimpArgs false
set_option maxRecDepth 100000
set_option maxHeartbeats 8000000
section
namespace Go.Smd
open Go.RowKit Go.Proofs Go.Proofs.Tryz
abbrev zv5:TypeId:=220
def CRd (s t:PS):Prop:=ACalls prog 90 [.c (.d (.pt (psD s))),.c (.d (.pt (psD t)))] (fun r=>r= .c (.d (.pt (psD (opS oRd s t)))))
theorem zln {t:PS}{e:EV}{s:PS}(h:zah e t.ms=true):opG oRd t e s=none:=by unfold opG zfA;simp [oRd,h]
theorem zmK {o:SOp}{t:PS}{e:EV}{s:PS}(ho:o.left=true)(h:(o.cut && zah e t.ms)=false)(h2:Zp e t.ks=none):opG o t e s=some s:=by unfold opG zfA;rw[h,h2,ho];rfl
theorem zsv {o:SOp}{t:PS}{e:EV}{s s':PS}(h:(o.cut && zah e t.ms)=false)(h2:Zp e t.ks=some s'):opG o t e s=bif (opS o s s').none then none else some (opS o s s'):=by unfold opG zfA;rw[h,h2];rfl
theorem zwY (k:PK)(N:Nat)(hN:N≤1000000000000)(ms':List EV)(ks':PK)(ok':OkS N (.mk ms' ks'))(hb:k.es.length≤1000000000000)(gk:∀x∈k.es,GoodE x)(sk:zaQ k.es)
  (h:∀s∈k.ss,∀t∈ks'.ss,CRd s t) (hE:∀s∈k.ss,∀t∈ks'.ss,zdq (opS oRd s t)):
  ACalls prog 151 [.c (.d (.pt [.sl tSN (pkD k)])),.c (.d (.pt (psD (.mk ms' ks'))))] (fun r=>r= .c (.d (.pt [.sl tSN (pkD (opK oRd k (.mk ms' ks')))]))):=by
 have ok0:=ok'
 simp only [OkS] at ok'
 have hl:=zc9 k
 have hl2:=PK.ss_length k
 have hl':=zc9 ks'
 have hl2':=PK.ss_length ks'
 have bA:(pkD k).length≤9223372036854775807:=by omega
 have bB:(pkD ks').length≤9223372036854775807:=by omega
 have oA:∀x∈k.es,OE x:=fun x hx=>(gk x hx).o
 have oB:∀x∈ks'.es,OE x:=fun x hx=>(ok'.2.2.2.1 x hx).o
 have tA:List.take (pkD k).length (pkD k)=pkD k:=List.take_of_length_le (Nat.le_refl _)
 rw[zcI]
 obtain ⟨T,hT⟩:∃T,T=PS.mk ms' ks':=⟨_,rfl⟩
 have hTm:T.ms=ms':=by rw[hT];rfl
 have hTk:T.ks=ks':=by rw[hT];rfl
 rw[←hT]
 obtain ⟨M,hM⟩:∃M,M=ms'.map eD:=⟨_,rfl⟩
 have cHas:=fun (e:EV) (he:GoodE e)=>(zuj ms' e (by omega) ok'.1 ok'.2.1 he).pre1a (ys:=[.sl tSN (pkD ks')])
 simp only [List.cons_append,List.nil_append] at cHas
 rw[←hM] at cHas ⊢
 refine zf [(4,([17],[(0,[]),(1,[]),(2,[]),(3,[]),(4,[]),(5,[]),(6,[]),(7,[]),(8,[]),(9,[]),(10,[]),(11,[]),(12,[]),(13,[]),(14,[]),(15,[]),(16,[]),(17,[])])),(5,([11],[(0,[]),(1,[]),(2,[]),(3,[]),(4,[]),(5,[]),(6,[]),(7,[]),(8,[]),(9,[]),(10,[]),(11,[]),(12,[])])),(8,([17],[(0,[]),(1,[]),(2,[]),(3,[]),(4,[]),(5,[]),(6,[]),(7,[]),(8,[]),(9,[]),(10,[]),(11,[]),(12,[]),(13,[]),(14,[]),(15,[]),(16,[]),(17,[]),(18,[])])),(9,([11],[(0,[]),(1,[]),(2,[]),(3,[]),(4,[]),(5,[]),(6,[]),(7,[]),(8,[]),(9,[]),(10,[]),(11,[]),(12,[])])),(10,([17],[(0,[]),(1,[]),(2,[]),(3,[]),(4,[]),(5,[]),(6,[]),(7,[]),(8,[]),(9,[]),(10,[]),(11,[]),(12,[]),(13,[]),(14,[]),(15,[]),(16,[]),(17,[]),(18,[])])),(19,([5],[(0,[]),(1,[]),(2,[]),(3,[]),(4,[]),(5,[]),(6,[])]))] func151 (by kernel_rfl) rfl ntmps151 results151 (Nat.le_of_ble_eq_true (by kernel_rfl)) ?_;intro hok w0 S0
 clear hok
 (repeat' (first|(with_reducible first|refine zj (fun _=>?_) (fun _=>?_)|refine zi (fun _=>?_) (fun _=>?_)|refine zk zb (by kernel_rfl) ?_|exact za rfl)|(simp -dsimp)));(all_goals try with_reducible refine za ?_)
 refine zF (fun x:Nat×Nat×Nat×List (List D)=>⟨[(0,.c (.d (.pt [.sl tSN (pkD k)]))),(1,.c (.d (.pt [.sl tPE M,.sl tSN (pkD ks')]))),(5,.c (.own 12 0)),(6,aI x.1),(7,aI x.2.1)],[(12,.cells [.gs 77 x.2.2.1] zv5),(77,.arr x.2.2.1 tSN x.2.2.2)]⟩)
  (fun x=>x.1≤k.es.length∧x.2.1≤ks'.es.length∧x.2.2.2++pkD (opK oRd (k.drop x.1) T)=pkD (opK oRd k T)∧x.2.2.2.length≤x.1∧MergeI k.es ks'.es x.1 x.2.1) (fun x=>k.es.length - x.1+(ks'.es.length - x.2.1)) (0,0,0,[]) ?_ ⟨Nat.zero_le _,Nat.zero_le _,rfl,Nat.le_refl _,MergeI.zero _ _⟩ ?_
 ·refine Weak.trans (Weak.adopt (z:=12) (id:=77) (T:=zv5) (E:=tSN) rfl rfl (by decide)) ?_
  exact Weak.same (by simp -dsimp) (by simp -dsimp) (by first|rfl|(simp [zg,Av.ids,Ow.ids,Cl.ids,Go.Smd.keys];done))
 ·rintro ⟨i,j,ver,R⟩ ⟨hi,hj,hR,hRl,hI⟩ K hK
  simp only at hi hj hR hRl hI
  by_cases hlt:i<(pkD k).length
  ·have i1:i<k.es.length:=by omega
   have i2:i<k.ss.length:=by omega
   have gi:=gk _ (List.getElem_mem i1)
   have hb2:(R.length+1)*40≤140737488351232:=by omega
   have hrow:=zuM (o:=oRd) (t:=T) i1 i2
   obtain ⟨a0,a1,a2,a3,X,Y,hn,ha,ha',hp,_,_⟩:=zdb k i hlt i1 i2
   have c2:=cHas _ gi
   rw[ha'] at c2
   by_cases hlt2:j<(pkD ks').length
   ·have j1:j<ks'.es.length:=by omega
    have j2:j<ks'.ss.length:=by omega
    have hw:IntKind.wrap .i64 ((i:Int)+1)=((i+1:Nat):Int):=by rw[zq]<;>omega
    have hw2:IntKind.wrap .i64 ((j:Int)+1)=((j+1:Nat):Int):=by rw[zq]<;>omega
    have gj:=ok'.2.2.2.1 _ (List.getElem_mem j1)
    have c1:=zee _ _ gi.f.le gj.f.le
    have c1':=zee _ _ gj.f.le gi.f.le
    rw[zaP _ _ gi.f gj.f] at c1
    rw[zaP _ _ gj.f gi.f] at c1'
    obtain ⟨b0,b1,b2,b3,X',Y',hn',hb',hb'',hp',_,_⟩:=zdb ks' j hlt2 j1 j2
    rw[ha',hb''] at c1 c1'
    have anti:=zo.anti _ _ gi.o gj.o
    by_cases h1:zw k.es[i] ks'.es[j]<0
    ·have hno:Zp k.es[i] T.ks=none:=by rw[hTk];exact hI.no oA oB ok'.2.2.2.2.1 i1 fun _=>h1
     rw[decide_eq_true h1] at c1
     cases hm:zah k.es[i] ms' with
     |true=>
      rw[hm] at c2
      rw[zln (by rw[hTm];exact hm)] at hrow
      (repeat' (first|(with_reducible first|refine zj (fun _=>?_) (fun _=>?_)|refine zi (fun _=>?_) (fun _=>?_)|refine zl (c1) (by first|rfl|(simp -dsimp [bA,bB,hlt,hlt2,hn,hn',hw,hw2];done)) ?_|(refine zx (c1) rfl ?_ ?_ ?_;iterate 2 exact by first|rfl|(simp -dsimp [bA,bB,hlt,hlt2,hn,hn',hw,hw2];done))|refine zl (c2) (by first|rfl|(simp -dsimp [bA,bB,hlt,hlt2,hn,hn',hw,hw2];done)) ?_|(refine zx (c2) rfl ?_ ?_ ?_;iterate 2 exact by first|rfl|(simp -dsimp [bA,bB,hlt,hlt2,hn,hn',hw,hw2];done))|refine zk zb (by kernel_rfl) ?_|exact za rfl)|(simp -dsimp [bA,bB,hlt,hlt2,hn,hn',hw,hw2])));(all_goals try with_reducible refine za ?_)
      refine hK _ (i+1,j,ver,R) ?_ ⟨by show i+1≤_;omega,hj,by rw[←hR];dsimp only;rw[hrow],by show R.length≤i+1;omega,hI.left⟩ (by show k.es.length - (i+1)+(ks'.es.length - j)<k.es.length - i+(ks'.es.length - j);omega)
      exact Weak.same (by simp -dsimp) (by simp -dsimp) (by first|rfl|(simp [zg,Av.ids,Ow.ids,Cl.ids,Go.Smd.keys];done))
     |false=>
      rw[hm] at c2
      rw[zmK rfl (by rw[hTm,hm];rfl) hno] at hrow
      dsimp only at hrow
      have ha2:eD k.es[i]++ [.pt (psD k.ss[i])]= [a0,a1,a2,a3,.pt [.sl tPE X,.sl tSN Y]]:=by rw[ha,hp];rfl
      rw[ha2] at hrow
      (repeat' (first|(with_reducible first|refine zj (fun _=>?_) (fun _=>?_)|refine zi (fun _=>?_) (fun _=>?_)|refine zl (c1) (by first|rfl|(simp -dsimp [bA,bB,hlt,hlt2,hn,hn',hw,hw2];done)) ?_|(refine zx (c1) rfl ?_ ?_ ?_;iterate 2 exact by first|rfl|(simp -dsimp [bA,bB,hlt,hlt2,hn,hn',hw,hw2];done))|refine zl (c2) (by first|rfl|(simp -dsimp [bA,bB,hlt,hlt2,hn,hn',hw,hw2];done)) ?_|(refine zx (c2) rfl ?_ ?_ ?_;iterate 2 exact by first|rfl|(simp -dsimp [bA,bB,hlt,hlt2,hn,hn',hw,hw2];done))|refine zk zb (by kernel_rfl) ?_|exact za rfl)|(simp -dsimp [bA,bB,hlt,hlt2,hn,hn',hw,hw2])));(all_goals try with_reducible refine za ?_)
      refine zcB ?_
      refine Zz zb [[],[],[1],[1,2],[1,2,3],[],[5],[5,6],[5,6,7],[],[5,6,7,8,9],[5,6,7,8,9,10],[5,6,7,8,9,10,11],[],[13],[13,14],[13,14,15],[],[13,14,15,16,17],[13,14,15,16,17,18],[13,14,15,16,17,18,19],[5,6,7,8,9,10,11,12,13,14,15,16,17,18,19,20],[5,6,7,8,9,10,11,12,13,14,15,16,17,18,19,20,21],[1,2,3,4,5,6,7,8,9,10,11,12,13,14,15,16,17,18,19,20,21,22],[0,1,2,3,4,5,6,7,8,9,10,11,12,13,14,15,16,17,18,19,20,21,22,23],[0,1,2,3,4,5,6,7,8,9,10,11,12,13,14,15,16,17,18,19,20,21,22,23,24],[0,1,2,3,4,5,6,7,8,9,10,11,12,13,14,15,16,17,18,19,20,21,22,23,24,25]] [0,1,2,3,4,5,6,7,8,9,10,11,12,13,14,15,16,17,18,19,20,21,22,23,24,25,26] [22,23,26] [([],⟨[(61,?m61u1),(62,?m62u1),(63,?m63u1),(64,?m64u1),(65,?m65u1),(66,?m66u1),(67,?m67u1),(68,?m68u1),(69,?m69u1),(70,?m70u1),(71,?m71u1),(72,?m72u1),(73,?m73u1),(74,?m74u1),(75,?m75u1),(76,?m76u1),(77,?m77u1),(78,?m78u1),(79,?m79u1),(80,?m80u1),(81,?m81u1),(82,?m82u1),(83,?m83u1),(84,?m84u1),(85,?m85u1),(86,?m86u1)],?bu1,?o0u1⟩),([22],⟨[(61,?m61u1),(62,?m62u1),(63,?m63u1),(64,?m64u1),(65,?m65u1),(66,?m66u1),(67,?m67u1),(68,?m68u1),(69,?m69u1),(70,?m70u1),(71,?m71u1),(72,?m72u1),(73,?m73u1),(74,?m74u1),(75,?m75u1),(76,?m76u1),(77,?m77u1),(78,?m78u1),(79,?m79u1),(80,?m80u1),(81,?m81u1),(82,?m82u1),(83,?m83u1),(84,?m84u1),(85,?m85u1),(86,?m86u1)],?bu1,?o1u1⟩),([22,23],⟨[(61,?m61u1),(62,?m62u1),(63,?m63u1),(64,?m64u1),(65,?m65u1),(66,?m66u1),(67,?m67u1),(68,?m68u1),(69,?m69u1),(70,?m70u1),(71,?m71u1),(72,?m72u1),(73,?m73u1),(74,?m74u1),(75,?m75u1),(76,?m76u1),(77,?m77u1),(78,?m78u1),(79,?m79u1),(80,?m80u1),(81,?m81u1),(82,?m82u1),(83,?m83u1),(84,?m84u1),(85,?m85u1),(86,?m86u1)],?bu1,?o2u1⟩),([22,23,26],⟨[(61,?m61u1),(62,?m62u1),(63,?m63u1),(64,?m64u1),(65,?m65u1),(66,?m66u1),(67,?m67u1),(68,?m68u1),(69,?m69u1),(70,?m70u1),(71,?m71u1),(72,?m72u1),(73,?m73u1),(74,?m74u1),(75,?m75u1),(76,?m76u1),(77,?m77u1),(78,?m78u1),(79,?m79u1),(80,?m80u1),(81,?m81u1),(82,?m82u1),(83,?m83u1),(84,?m84u1),(85,?m85u1),(86,?m86u1)],?bu1,?o3u1⟩)] ?hoku1 rfl rfl ?hbu1 ?hou1 ?hstu1 ?hku1
      case' hbu1=>rfl
      case' hou1=>rfl
      case' hstu1=>refine ⟨⟨?v0u1,?s0u1⟩,⟨⟨?v1u1,?s1u1⟩,⟨⟨?v2u1,?s2u1⟩,⟨⟨?v3u1,?s3u1⟩,True.intro⟩⟩⟩⟩
      case v0u1=>
       iterate 22 refine ⟨.inr ⟨_,rfl,zm (zY rfl rfl (by simp -dsimp [ze,bA,hlt,hn,zc,hb2]<;>with_reducible rfl))⟩,?_⟩
       iterate 5 refine ⟨.inl (by kernel_rfl),?_⟩
       exact True.intro
      case s0u1=>
       refine ⟨.inr ⟨_,_,rfl,rfl,zI (zaK (hdk:=rfl) (hW:=rfl) (hq:=by simp -dsimp [ze,bA,hlt,hn,zc,hb2]<;>(first|done|rfl|exact ⟨rfl,rfl⟩|exact ⟨rfl,rfl,rfl⟩)) (hoo:=rfl) (hv:=by simp -dsimp [ze,bA,hlt,hn,zc,hb2]<;>with_reducible rfl)) (by simp -dsimp [ze,zQ,zao,bA,hlt,hn,zc,hb2]<;>with_reducible rfl)⟩,?_⟩
       iterate 2 refine ⟨.inl (by kernel_rfl),?_⟩
       exact True.intro
      case v1u1=>
       iterate 5 refine ⟨.inr ⟨_,rfl,zm (zY rfl rfl (by simp -dsimp [ze,bA,hlt,hn,zc,hb2]<;>with_reducible rfl))⟩,?_⟩
       iterate 22 refine ⟨.inl (by kernel_rfl),?_⟩
       exact True.intro
      case s1u1=>
       refine ⟨.inl (by kernel_rfl),?_⟩
       refine ⟨.inr ⟨_,_,rfl,rfl,zI (zaK (hdk:=rfl) (hW:=rfl) (hq:=by simp -dsimp [ze,bA,hlt,hn,zc,hb2]<;>(first|done|rfl|exact ⟨rfl,rfl⟩|exact ⟨rfl,rfl,rfl⟩)) (hoo:=rfl) (hv:=by simp -dsimp [ze,bA,hlt,hn,zc,hb2]<;>with_reducible rfl)) (by simp -dsimp [ze,zQ,zao,bA,hlt,hn,zc,hb2]<;>with_reducible rfl)⟩,?_⟩
       refine ⟨.inl (by kernel_rfl),?_⟩
       exact True.intro
      case v2u1=>
       refine ⟨.inr ⟨_,rfl,zm (zY rfl rfl (by simp -dsimp [ze,bA,hlt,hn,zc,hb2]<;>with_reducible rfl))⟩,?_⟩
       iterate 23 refine ⟨.inl (by kernel_rfl),?_⟩
       iterate 2 refine ⟨.inr ⟨_,rfl,zm (zY rfl rfl (by simp -dsimp [ze,bA,hlt,hn,zc,hb2]<;>with_reducible rfl))⟩,?_⟩
       refine ⟨.inl (by kernel_rfl),?_⟩
       exact True.intro
      case s2u1=>
       iterate 2 refine ⟨.inl (by kernel_rfl),?_⟩
       refine ⟨.inr ⟨_,_,rfl,rfl,zI (zaK (hdk:=rfl) (hW:=rfl) (hq:=by simp -dsimp [ze,bA,hlt,hn,zc,hb2]<;>(first|done|rfl|exact ⟨rfl,rfl⟩|exact ⟨rfl,rfl,rfl⟩)) (hoo:=rfl) (hv:=by simp -dsimp [ze,bA,hlt,hn,zc,hb2]<;>with_reducible rfl)) (by simp -dsimp [ze,zQ,zao,bA,hlt,hn,zc,hb2]<;>with_reducible rfl)⟩,?_⟩
       exact True.intro
      case v3u1=>
       iterate 27 refine ⟨.inl (by kernel_rfl),?_⟩
       exact True.intro
      case s3u1=>
       iterate 3 refine ⟨.inl (by kernel_rfl),?_⟩
       exact True.intro
      case hoku1=>kernel_rfl
      refine ⟨rfl,?_⟩
      (repeat' (first|(with_reducible first|refine zj (fun _=>?_) (fun _=>?_)|refine zi (fun _=>?_) (fun _=>?_)|refine zk zb (by kernel_rfl) ?_|exact za rfl)|(simp -dsimp [hw])));(all_goals try with_reducible refine za ?_)
      refine hK _ (i+1,j,ver+1,R++ [[a0,a1,a2,a3,.pt [.sl tPE X,.sl tSN Y]]]) ?_ ⟨by show i+1≤_;omega,hj,by rw[←hR,hrow];simp,by simp;omega,hI.left⟩ (by show k.es.length - (i+1)+(ks'.es.length - j)<k.es.length - i+(ks'.es.length - j);omega)
      exact Weak.same (by simp -dsimp) (by simp -dsimp) (by first|rfl|(simp [zg,Av.ids,Ow.ids,Cl.ids,Go.Smd.keys];done))
    ·rw[decide_eq_false h1] at c1
     by_cases h2:zw ks'.es[j] k.es[i]<0
     ·rw[decide_eq_true h2] at c1'
      (repeat' (first|(with_reducible first|refine zj (fun _=>?_) (fun _=>?_)|refine zi (fun _=>?_) (fun _=>?_)|refine zl (c1) (by first|rfl|(simp -dsimp [bA,bB,hlt,hlt2,hn,hn',hw,hw2];done)) ?_|(refine zx (c1) rfl ?_ ?_ ?_;iterate 2 exact by first|rfl|(simp -dsimp [bA,bB,hlt,hlt2,hn,hn',hw,hw2];done))|refine zl (c1') (by first|rfl|(simp -dsimp [bA,bB,hlt,hlt2,hn,hn',hw,hw2];done)) ?_|(refine zx (c1') rfl ?_ ?_ ?_;iterate 2 exact by first|rfl|(simp -dsimp [bA,bB,hlt,hlt2,hn,hn',hw,hw2];done))|refine zk zb (by kernel_rfl) ?_|exact za rfl)|(simp -dsimp [bA,bB,hlt,hlt2,hn,hn',hw,hw2])));(all_goals try with_reducible refine za ?_)
      refine hK _ (i,j+1,ver,R) ?_ ⟨hi,by show j+1≤_;omega,hR,hRl,hI.right oA oB sk i1 j1 h2⟩ (by show k.es.length - i+(ks'.es.length - (j+1))<k.es.length - i+(ks'.es.length - j);omega)
      exact Weak.same (by simp -dsimp) (by simp -dsimp) (by first|rfl|(simp [zg,Av.ids,Ow.ids,Cl.ids,Go.Smd.keys];done))
     ·rw[decide_eq_false h2] at c1'
      have h0:zw ks'.es[j] k.es[i]=0:=by omega
      have hfd:Zp k.es[i] T.ks=some ks'.ss[j]:=by rw[hTk];exact zmI gi.o oB ok'.2.2.2.2.1 j j1 j2 h0
      have hI2:=hI.both oA oB sk i1 j1 h0
      cases hm:zah k.es[i] ms' with
      |true=>
       rw[hm] at c2
       rw[zln (by rw[hTm];exact hm)] at hrow
       (repeat' (first|(with_reducible first|refine zj (fun _=>?_) (fun _=>?_)|refine zi (fun _=>?_) (fun _=>?_)|refine zl (c1) (by first|rfl|(simp -dsimp [bA,bB,hlt,hlt2,hn,hn',hw,hw2];done)) ?_|(refine zx (c1) rfl ?_ ?_ ?_;iterate 2 exact by first|rfl|(simp -dsimp [bA,bB,hlt,hlt2,hn,hn',hw,hw2];done))|refine zl (c1') (by first|rfl|(simp -dsimp [bA,bB,hlt,hlt2,hn,hn',hw,hw2];done)) ?_|(refine zx (c1') rfl ?_ ?_ ?_;iterate 2 exact by first|rfl|(simp -dsimp [bA,bB,hlt,hlt2,hn,hn',hw,hw2];done))|refine zl (c2) (by first|rfl|(simp -dsimp [bA,bB,hlt,hlt2,hn,hn',hw,hw2];done)) ?_|(refine zx (c2) rfl ?_ ?_ ?_;iterate 2 exact by first|rfl|(simp -dsimp [bA,bB,hlt,hlt2,hn,hn',hw,hw2];done))|refine zk zb (by kernel_rfl) ?_|exact za rfl)|(simp -dsimp [bA,bB,hlt,hlt2,hn,hn',hw,hw2])));(all_goals try with_reducible refine za ?_)
       refine hK _ (i+1,j+1,ver,R) ?_ ⟨by show i+1≤_;omega,by show j+1≤_;omega,by rw[←hR];dsimp only;rw[hrow],by show R.length≤i+1;omega,hI2⟩ (by show k.es.length - (i+1)+(ks'.es.length - (j+1))<k.es.length - i+(ks'.es.length - j);omega)
       exact Weak.same (by simp -dsimp) (by simp -dsimp) (by first|rfl|(simp [zg,Av.ids,Ow.ids,Cl.ids,Go.Smd.keys];done))
      |false=>
       rw[hm] at c2
       have c3:=h _ (List.getElem_mem i2) _ (List.getElem_mem j2)
       have c4:=hE _ (List.getElem_mem i2) _ (List.getElem_mem j2)
       unfold CRd at c3
       unfold zdq at c4
       rw[hp,hp'] at c3
       rw[zsv (by rw[hTm,hm];rfl) hfd] at hrow
       obtain ⟨Z1,Z2,hZ⟩:∃Z1 Z2,psD (opS oRd k.ss[i] ks'.ss[j])= [.sl tPE Z1,.sl tSN Z2]:=by
        cases opS oRd k.ss[i] ks'.ss[j];exact ⟨_,_,zcI _ _⟩
       rw[hZ] at c3 c4
       cases hz:(opS oRd k.ss[i] ks'.ss[j]).none with
       |true=>
        rw[hz] at c4
        rw[hz] at hrow
        dsimp only [cond] at hrow
        (repeat' (first|(with_reducible first|refine zj (fun _=>?_) (fun _=>?_)|refine zi (fun _=>?_) (fun _=>?_)|refine zl (c1) (by first|rfl|(simp -dsimp [bA,bB,hlt,hlt2,hn,hn',hw,hw2];done)) ?_|(refine zx (c1) rfl ?_ ?_ ?_;iterate 2 exact by first|rfl|(simp -dsimp [bA,bB,hlt,hlt2,hn,hn',hw,hw2];done))|refine zl (c1') (by first|rfl|(simp -dsimp [bA,bB,hlt,hlt2,hn,hn',hw,hw2];done)) ?_|(refine zx (c1') rfl ?_ ?_ ?_;iterate 2 exact by first|rfl|(simp -dsimp [bA,bB,hlt,hlt2,hn,hn',hw,hw2];done))|refine zl (c2) (by first|rfl|(simp -dsimp [bA,bB,hlt,hlt2,hn,hn',hw,hw2];done)) ?_|(refine zx (c2) rfl ?_ ?_ ?_;iterate 2 exact by first|rfl|(simp -dsimp [bA,bB,hlt,hlt2,hn,hn',hw,hw2];done))|refine zl (c3) (by first|rfl|(simp -dsimp [bA,bB,hlt,hlt2,hn,hn',hw,hw2];done)) ?_|(refine zx (c3) rfl ?_ ?_ ?_;iterate 2 exact by first|rfl|(simp -dsimp [bA,bB,hlt,hlt2,hn,hn',hw,hw2];done))|refine zl (c4) (by first|rfl|(simp -dsimp [bA,bB,hlt,hlt2,hn,hn',hw,hw2];done)) ?_|(refine zx (c4) rfl ?_ ?_ ?_;iterate 2 exact by first|rfl|(simp -dsimp [bA,bB,hlt,hlt2,hn,hn',hw,hw2];done))|refine zk zb (by kernel_rfl) ?_|exact za rfl)|(simp -dsimp [bA,bB,hlt,hlt2,hn,hn',hw,hw2])));(all_goals try with_reducible refine za ?_)
        refine hK _ (i+1,j+1,ver,R) ?_ ⟨by show i+1≤_;omega,by show j+1≤_;omega,by rw[←hR,hrow],by show R.length≤i+1;omega,hI2⟩ (by show k.es.length - (i+1)+(ks'.es.length - (j+1))<k.es.length - i+(ks'.es.length - j);omega)
        exact Weak.same (by simp -dsimp) (by simp -dsimp) (by first|rfl|(simp [zg,Av.ids,Ow.ids,Cl.ids,Go.Smd.keys];done))
       |false=>
        rw[hz] at c4
        rw[hz] at hrow
        dsimp only [cond] at hrow
        have ha2:eD k.es[i]++ [.pt (psD (opS oRd k.ss[i] ks'.ss[j]))]= [a0,a1,a2,a3,.pt [.sl tPE Z1,.sl tSN Z2]]:=by rw[ha,hZ];rfl
        rw[ha2] at hrow
        (repeat' (first|(with_reducible first|refine zj (fun _=>?_) (fun _=>?_)|refine zi (fun _=>?_) (fun _=>?_)|refine zl (c1) (by first|rfl|(simp -dsimp [bA,bB,hlt,hlt2,hn,hn',hw,hw2];done)) ?_|(refine zx (c1) rfl ?_ ?_ ?_;iterate 2 exact by first|rfl|(simp -dsimp [bA,bB,hlt,hlt2,hn,hn',hw,hw2];done))|refine zl (c1') (by first|rfl|(simp -dsimp [bA,bB,hlt,hlt2,hn,hn',hw,hw2];done)) ?_|(refine zx (c1') rfl ?_ ?_ ?_;iterate 2 exact by first|rfl|(simp -dsimp [bA,bB,hlt,hlt2,hn,hn',hw,hw2];done))|refine zl (c2) (by first|rfl|(simp -dsimp [bA,bB,hlt,hlt2,hn,hn',hw,hw2];done)) ?_|(refine zx (c2) rfl ?_ ?_ ?_;iterate 2 exact by first|rfl|(simp -dsimp [bA,bB,hlt,hlt2,hn,hn',hw,hw2];done))|refine zl (c3) (by first|rfl|(simp -dsimp [bA,bB,hlt,hlt2,hn,hn',hw,hw2];done)) ?_|(refine zx (c3) rfl ?_ ?_ ?_;iterate 2 exact by first|rfl|(simp -dsimp [bA,bB,hlt,hlt2,hn,hn',hw,hw2];done))|refine zl (c4) (by first|rfl|(simp -dsimp [bA,bB,hlt,hlt2,hn,hn',hw,hw2];done)) ?_|(refine zx (c4) rfl ?_ ?_ ?_;iterate 2 exact by first|rfl|(simp -dsimp [bA,bB,hlt,hlt2,hn,hn',hw,hw2];done))|refine zk zb (by kernel_rfl) ?_|exact za rfl)|(simp -dsimp [bA,bB,hlt,hlt2,hn,hn',hw,hw2])));(all_goals try with_reducible refine za ?_)
        refine zcB ?_
        refine Zz zb [[],[],[1],[1,2],[1,2,3],[],[5],[5,6],[5,6,7],[],[5,6,7,8,9],[5,6,7,8,9,10],[5,6,7,8,9,10,11],[],[5,6,7,8,9,10,11,12,13],[5,6,7,8,9,10,11,12,13,14],[1,2,3,4,5,6,7,8,9,10,11,12,13,14,15],[0,1,2,3,4,5,6,7,8,9,10,11,12,13,14,15,16],[0,1,2,3,4,5,6,7,8,9,10,11,12,13,14,15,16,17],[0,1,2,3,4,5,6,7,8,9,10,11,12,13,14,15,16,17,18]] [0,1,2,3,4,5,6,7,8,9,10,11,12,13,14,15,16,17,18,19] [15,16,19] [([],⟨[(142,?m142u2),(143,?m143u2),(144,?m144u2),(145,?m145u2),(146,?m146u2),(147,?m147u2),(148,?m148u2),(149,?m149u2),(150,?m150u2),(151,?m151u2),(152,?m152u2),(153,?m153u2),(154,?m154u2),(155,?m155u2),(156,?m156u2),(157,?m157u2),(158,?m158u2),(159,?m159u2),(160,?m160u2)],?bu2,?o0u2⟩),([15],⟨[(142,?m142u2),(143,?m143u2),(144,?m144u2),(145,?m145u2),(146,?m146u2),(147,?m147u2),(148,?m148u2),(149,?m149u2),(150,?m150u2),(151,?m151u2),(152,?m152u2),(153,?m153u2),(154,?m154u2),(155,?m155u2),(156,?m156u2),(157,?m157u2),(158,?m158u2),(159,?m159u2),(160,?m160u2)],?bu2,?o1u2⟩),([15,16],⟨[(142,?m142u2),(143,?m143u2),(144,?m144u2),(145,?m145u2),(146,?m146u2),(147,?m147u2),(148,?m148u2),(149,?m149u2),(150,?m150u2),(151,?m151u2),(152,?m152u2),(153,?m153u2),(154,?m154u2),(155,?m155u2),(156,?m156u2),(157,?m157u2),(158,?m158u2),(159,?m159u2),(160,?m160u2)],?bu2,?o2u2⟩),([15,16,19],⟨[(142,?m142u2),(143,?m143u2),(144,?m144u2),(145,?m145u2),(146,?m146u2),(147,?m147u2),(148,?m148u2),(149,?m149u2),(150,?m150u2),(151,?m151u2),(152,?m152u2),(153,?m153u2),(154,?m154u2),(155,?m155u2),(156,?m156u2),(157,?m157u2),(158,?m158u2),(159,?m159u2),(160,?m160u2)],?bu2,?o3u2⟩)] ?hoku2 rfl rfl ?hbu2 ?hou2 ?hstu2 ?hku2
        case' hbu2=>rfl
        case' hou2=>rfl
        case' hstu2=>refine ⟨⟨?v0u2,?s0u2⟩,⟨⟨?v1u2,?s1u2⟩,⟨⟨?v2u2,?s2u2⟩,⟨⟨?v3u2,?s3u2⟩,True.intro⟩⟩⟩⟩
        case v0u2=>
         iterate 15 refine ⟨.inr ⟨_,rfl,zm (zY rfl rfl (by simp -dsimp [ze,bA,hlt,hn,zc,hb2]<;>with_reducible rfl))⟩,?_⟩
         iterate 5 refine ⟨.inl (by kernel_rfl),?_⟩
         exact True.intro
        case s0u2=>
         refine ⟨.inr ⟨_,_,rfl,rfl,zI (zaK (hdk:=rfl) (hW:=rfl) (hq:=by simp -dsimp [ze,bA,hlt,hn,zc,hb2]<;>(first|done|rfl|exact ⟨rfl,rfl⟩|exact ⟨rfl,rfl,rfl⟩)) (hoo:=rfl) (hv:=by simp -dsimp [ze,bA,hlt,hn,zc,hb2]<;>with_reducible rfl)) (by simp -dsimp [ze,zQ,zao,bA,hlt,hn,zc,hb2]<;>with_reducible rfl)⟩,?_⟩
         iterate 2 refine ⟨.inl (by kernel_rfl),?_⟩
         exact True.intro
        case v1u2=>
         iterate 5 refine ⟨.inr ⟨_,rfl,zm (zY rfl rfl (by simp -dsimp [ze,bA,hlt,hn,zc,hb2]<;>with_reducible rfl))⟩,?_⟩
         iterate 15 refine ⟨.inl (by kernel_rfl),?_⟩
         exact True.intro
        case s1u2=>
         refine ⟨.inl (by kernel_rfl),?_⟩
         refine ⟨.inr ⟨_,_,rfl,rfl,zI (zaK (hdk:=rfl) (hW:=rfl) (hq:=by simp -dsimp [ze,bA,hlt,hn,zc,hb2]<;>(first|done|rfl|exact ⟨rfl,rfl⟩|exact ⟨rfl,rfl,rfl⟩)) (hoo:=rfl) (hv:=by simp -dsimp [ze,bA,hlt,hn,zc,hb2]<;>with_reducible rfl)) (by simp -dsimp [ze,zQ,zao,bA,hlt,hn,zc,hb2]<;>with_reducible rfl)⟩,?_⟩
         refine ⟨.inl (by kernel_rfl),?_⟩
         exact True.intro
        case v2u2=>
         refine ⟨.inr ⟨_,rfl,zm (zY rfl rfl (by simp -dsimp [ze,bA,hlt,hn,zc,hb2]<;>with_reducible rfl))⟩,?_⟩
         iterate 16 refine ⟨.inl (by kernel_rfl),?_⟩
         iterate 2 refine ⟨.inr ⟨_,rfl,zm (zY rfl rfl (by simp -dsimp [ze,bA,hlt,hn,zc,hb2]<;>with_reducible rfl))⟩,?_⟩
         refine ⟨.inl (by kernel_rfl),?_⟩
         exact True.intro
        case s2u2=>
         iterate 2 refine ⟨.inl (by kernel_rfl),?_⟩
         refine ⟨.inr ⟨_,_,rfl,rfl,zI (zaK (hdk:=rfl) (hW:=rfl) (hq:=by simp -dsimp [ze,bA,hlt,hn,zc,hb2]<;>(first|done|rfl|exact ⟨rfl,rfl⟩|exact ⟨rfl,rfl,rfl⟩)) (hoo:=rfl) (hv:=by simp -dsimp [ze,bA,hlt,hn,zc,hb2]<;>with_reducible rfl)) (by simp -dsimp [ze,zQ,zao,bA,hlt,hn,zc,hb2]<;>with_reducible rfl)⟩,?_⟩
         exact True.intro
        case v3u2=>
         iterate 20 refine ⟨.inl (by kernel_rfl),?_⟩
         exact True.intro
        case s3u2=>
         iterate 3 refine ⟨.inl (by kernel_rfl),?_⟩
         exact True.intro
        case hoku2=>kernel_rfl
        refine ⟨rfl,?_⟩
        (repeat' (first|(with_reducible first|refine zj (fun _=>?_) (fun _=>?_)|refine zi (fun _=>?_) (fun _=>?_)|refine zk zb (by kernel_rfl) ?_|exact za rfl)|(simp -dsimp [hw,hw2])));(all_goals try with_reducible refine za ?_)
        refine hK _ (i+1,j+1,ver+1,R++ [[a0,a1,a2,a3,.pt [.sl tPE Z1,.sl tSN Z2]]]) ?_ ⟨by show i+1≤_;omega,by show j+1≤_;omega,by rw[←hR,hrow];simp,by simp;omega,hI2⟩ (by show k.es.length - (i+1)+(ks'.es.length - (j+1))<k.es.length - i+(ks'.es.length - j);omega)
        exact Weak.same (by simp -dsimp) (by simp -dsimp) (by first|rfl|(simp [zg,Av.ids,Ow.ids,Cl.ids,Go.Smd.keys];done))
   ·have hno:∀m (hm:m<k.es.length),i≤m→Zp k.es[m] T.ks=none:=fun m hm him=>by
     rw[hTk]
     exact zmJ (j:=j) (fun a ha haj=>hI a m ha hm haj him) fun a ha haj=>by omega
    have hle:i≤(pkD k).length:=by omega
    obtain ⟨L,hL⟩:∃L,List.drop i (pkD k)=L:=⟨_,rfl⟩
    have hLl:L.length=(pkD k).length - i:=by rw[←hL,List.length_drop]
    have bL:L.length≤9223372036854775807:=by omega
    clear hrow c2
    (repeat' (first|(with_reducible first|refine zj (fun _=>?_) (fun _=>?_)|refine zi (fun _=>?_) (fun _=>?_)|refine zk zb (by kernel_rfl) ?_|exact za rfl)|(simp -dsimp [bA,bB,hlt,hlt2,tA,hle,hL,bL])));(all_goals try with_reducible refine za ?_)
    refine zF (fun x:Nat×Nat×List (List D)=>⟨[(1,.c (.d (.pt [.sl tPE M,.sl tSN (pkD ks')]))),(5,.c (.own 12 0)),(177,.c (.d (.sl tSN L))),(178,aI L.length),(179,aI x.1)],[(12,.cells [.gs 77 x.2.1] zv5),(77,.arr x.2.1 tSN x.2.2)]⟩)
     (fun x=>x.1≤L.length∧x.2.2++pkD (opK oRd (k.drop (i+x.1)) T)=pkD (opK oRd k T)∧x.2.2.length≤i+x.1) (fun x=>L.length - x.1) (0,ver,R) ?_ ⟨Nat.zero_le _,hR,hRl⟩ ?_
    ·exact Weak.same (by simp -dsimp [hL]) (by simp -dsimp [hL]) (by first|rfl|(simp [zg,Av.ids,Ow.ids,Cl.ids,Go.Smd.keys];done))
    ·rintro ⟨q,ver,R⟩ ⟨hq,hR,hRl⟩ K hK
     simp only at hq hR hRl
     by_cases hlq:q<L.length
     ·have hw:IntKind.wrap .i64 ((q:Int)+1)=((q+1:Nat):Int):=by rw[zq]<;>omega
      obtain ⟨m,hm⟩:∃m,m=i+q:=⟨_,rfl⟩
      have hm1:m<(pkD k).length:=by omega
      have i1:m<k.es.length:=by omega
      have i2:m<k.ss.length:=by omega
      have gi:=gk _ (List.getElem_mem i1)
      have hb2:(R.length+1)*40≤140737488351232:=by omega
      have hrow:=zuM (o:=oRd) (t:=T) i1 i2
      have hnx:i+(q+1)=m+1:=by omega
      rw[←hm] at hR hRl
      obtain ⟨a0,a1,a2,a3,X,Y,hn,ha,ha',hp,_,_⟩:=zdb k m hm1 i1 i2
      have hn2:L[q]= [a0,a1,a2,a3,.pt [.sl tPE X,.sl tSN Y]]:=by
       rw[←hn]
       simp only [←hL,List.getElem_drop,←hm]
      have c2:=cHas _ gi
      rw[ha'] at c2
      cases hme:zah k.es[m] ms' with
      |true=>
       rw[hme] at c2
       rw[zln (by rw[hTm];exact hme)] at hrow
       (repeat' (first|(with_reducible first|refine zj (fun _=>?_) (fun _=>?_)|refine zi (fun _=>?_) (fun _=>?_)|refine zl (c2) (by first|rfl|(simp -dsimp [bL,hlq,hn2,hw];done)) ?_|(refine zx (c2) rfl ?_ ?_ ?_;iterate 2 exact by first|rfl|(simp -dsimp [bL,hlq,hn2,hw];done))|refine zk zb (by kernel_rfl) ?_|exact za rfl)|(simp -dsimp [bL,hlq,hn2,hw])));(all_goals try with_reducible refine za ?_)
       refine hK _ (q+1,ver,R) ?_ ⟨by show q+1≤_;omega,by rw[←hR];dsimp only;rw[hnx,hrow],by show R.length≤i+(q+1);omega⟩ (by show L.length - (q+1)<L.length - q;omega)
       exact Weak.same (by simp -dsimp) (by simp -dsimp) (by first|rfl|(simp [zg,Av.ids,Ow.ids,Cl.ids,Go.Smd.keys];done))
      |false=>
       rw[hme] at c2
       rw[zmK rfl (by rw[hTm,hme];rfl) (hno m i1 (by omega))] at hrow
       dsimp only at hrow
       have ha2:eD k.es[m]++ [.pt (psD k.ss[m])]= [a0,a1,a2,a3,.pt [.sl tPE X,.sl tSN Y]]:=by rw[ha,hp];rfl
       rw[ha2] at hrow
       (repeat' (first|(with_reducible first|refine zj (fun _=>?_) (fun _=>?_)|refine zi (fun _=>?_) (fun _=>?_)|refine zl (c2) (by first|rfl|(simp -dsimp [bL,hlq,hn2,hw];done)) ?_|(refine zx (c2) rfl ?_ ?_ ?_;iterate 2 exact by first|rfl|(simp -dsimp [bL,hlq,hn2,hw];done))|refine zk zb (by kernel_rfl) ?_|exact za rfl)|(simp -dsimp [bL,hlq,hn2,hw])));(all_goals try with_reducible refine za ?_)
       refine zcB ?_
       refine Zz zb [[],[],[1],[1,2],[1,2,3],[],[5],[1,2,3,4,5,6],[0,1,2,3,4,5,6,7],[0,1,2,3,4,5,6,7,8],[0,1,2,3,4,5,6,7,8,9]] [0,1,2,3,4,5,6,7,8,9,10] [6,7,10] [([],⟨[(190,?m190u3),(191,?m191u3),(192,?m192u3),(193,?m193u3),(194,?m194u3),(195,?m195u3),(196,?m196u3),(197,?m197u3),(198,?m198u3),(199,?m199u3)],?bu3,?o0u3⟩),([6],⟨[(190,?m190u3),(191,?m191u3),(192,?m192u3),(193,?m193u3),(194,?m194u3),(195,?m195u3),(196,?m196u3),(197,?m197u3),(198,?m198u3),(199,?m199u3)],?bu3,?o1u3⟩),([6,7],⟨[(190,?m190u3),(191,?m191u3),(192,?m192u3),(193,?m193u3),(194,?m194u3),(195,?m195u3),(196,?m196u3),(197,?m197u3),(198,?m198u3),(199,?m199u3)],?bu3,?o2u3⟩),([6,7,10],⟨[(190,?m190u3),(191,?m191u3),(192,?m192u3),(193,?m193u3),(194,?m194u3),(195,?m195u3),(196,?m196u3),(197,?m197u3),(198,?m198u3),(199,?m199u3)],?bu3,?o3u3⟩)] ?hoku3 rfl rfl ?hbu3 ?hou3 ?hstu3 ?hku3
       case' hbu3=>rfl
       case' hou3=>rfl
       case' hstu3=>refine ⟨⟨?v0u3,?s0u3⟩,⟨⟨?v1u3,?s1u3⟩,⟨⟨?v2u3,?s2u3⟩,⟨⟨?v3u3,?s3u3⟩,True.intro⟩⟩⟩⟩
       case v0u3=>
        iterate 6 refine ⟨.inr ⟨_,rfl,zm (zY rfl rfl (by simp -dsimp [ze,zc,hb2]<;>with_reducible rfl))⟩,?_⟩
        iterate 5 refine ⟨.inl (by kernel_rfl),?_⟩
        exact True.intro
       case s0u3=>
        refine ⟨.inr ⟨_,_,rfl,rfl,zI (zaK (hdk:=rfl) (hW:=rfl) (hq:=by simp -dsimp [ze,zc,hb2]<;>(first|done|rfl|exact ⟨rfl,rfl⟩|exact ⟨rfl,rfl,rfl⟩)) (hoo:=rfl) (hv:=by simp -dsimp [ze,zc,hb2]<;>with_reducible rfl)) (by simp -dsimp [ze,zQ,zao,zc,hb2]<;>with_reducible rfl)⟩,?_⟩
        iterate 2 refine ⟨.inl (by kernel_rfl),?_⟩
        exact True.intro
       case v1u3=>
        iterate 5 refine ⟨.inr ⟨_,rfl,zm (zY rfl rfl (by simp -dsimp [ze,zc,hb2]<;>with_reducible rfl))⟩,?_⟩
        iterate 6 refine ⟨.inl (by kernel_rfl),?_⟩
        exact True.intro
       case s1u3=>
        refine ⟨.inl (by kernel_rfl),?_⟩
        refine ⟨.inr ⟨_,_,rfl,rfl,zI (zaK (hdk:=rfl) (hW:=rfl) (hq:=by simp -dsimp [ze,zc,hb2]<;>(first|done|rfl|exact ⟨rfl,rfl⟩|exact ⟨rfl,rfl,rfl⟩)) (hoo:=rfl) (hv:=by simp -dsimp [ze,zc,hb2]<;>with_reducible rfl)) (by simp -dsimp [ze,zQ,zao,zc,hb2]<;>with_reducible rfl)⟩,?_⟩
        refine ⟨.inl (by kernel_rfl),?_⟩
        exact True.intro
       case v2u3=>
        refine ⟨.inr ⟨_,rfl,zm (zY rfl rfl (by simp -dsimp [ze,zc,hb2]<;>with_reducible rfl))⟩,?_⟩
        iterate 7 refine ⟨.inl (by kernel_rfl),?_⟩
        iterate 2 refine ⟨.inr ⟨_,rfl,zm (zY rfl rfl (by simp -dsimp [ze,zc,hb2]<;>with_reducible rfl))⟩,?_⟩
        refine ⟨.inl (by kernel_rfl),?_⟩
        exact True.intro
       case s2u3=>
        iterate 2 refine ⟨.inl (by kernel_rfl),?_⟩
        refine ⟨.inr ⟨_,_,rfl,rfl,zI (zaK (hdk:=rfl) (hW:=rfl) (hq:=by simp -dsimp [ze,zc,hb2]<;>(first|done|rfl|exact ⟨rfl,rfl⟩|exact ⟨rfl,rfl,rfl⟩)) (hoo:=rfl) (hv:=by simp -dsimp [ze,zc,hb2]<;>with_reducible rfl)) (by simp -dsimp [ze,zQ,zao,zc,hb2]<;>with_reducible rfl)⟩,?_⟩
        exact True.intro
       case v3u3=>
        iterate 11 refine ⟨.inl (by kernel_rfl),?_⟩
        exact True.intro
       case s3u3=>
        iterate 3 refine ⟨.inl (by kernel_rfl),?_⟩
        exact True.intro
       case hoku3=>kernel_rfl
       refine ⟨rfl,?_⟩
       (repeat' (first|(with_reducible first|refine zj (fun _=>?_) (fun _=>?_)|refine zi (fun _=>?_) (fun _=>?_)|refine zk zb (by kernel_rfl) ?_|exact za rfl)|(simp -dsimp [hw])));(all_goals try with_reducible refine za ?_)
       refine hK _ (q+1,ver+1,R++ [[a0,a1,a2,a3,.pt [.sl tPE X,.sl tSN Y]]]) ?_ ⟨by show q+1≤_;omega,by rw[←hR];dsimp only;rw[hnx,hrow];simp,by simp;omega⟩ (by show L.length - (q+1)<L.length - q;omega)
       exact Weak.same (by simp -dsimp) (by simp -dsimp) (by first|rfl|(simp [zg,Av.ids,Ow.ids,Cl.ids,Go.Smd.keys];done))
     ·rw[PK.drop_all (by omega)] at hR
      simp only [opK,zhn,List.append_nil] at hR
      (repeat' (first|(with_reducible first|refine zj (fun _=>?_) (fun _=>?_)|refine zi (fun _=>?_) (fun _=>?_)|refine zk zb (by kernel_rfl) ?_|exact za rfl)|(simp -dsimp [hlq])));(all_goals try with_reducible refine za ?_)
      rw[hR]
  ·rw[PK.drop_all (by omega)] at hR
   simp only [opK,zhn,List.append_nil] at hR
   (repeat' (first|(with_reducible first|refine zj (fun _=>?_) (fun _=>?_)|refine zi (fun _=>?_) (fun _=>?_)|refine zk zb (by kernel_rfl) ?_|exact za rfl)|(simp -dsimp [bA,bB,hlt])));(all_goals try with_reducible refine za ?_)
   rw[hR]
end Go.Smd
end
