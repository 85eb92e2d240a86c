/- Part 33. -/
import Derived.Test.YtdgnolbdcmgfoaaGreatQD27
import Derived.Test.YtdgnolbdcmgfoaaGreatQD32
import Derived.Test.YtdgnolbdcmgfoaaGreatQD26
set_option linter.unusedVariables false
set_option linter.unusedSimpArgs false
set_option maxRecDepth 100000
set_option maxHeartbeats 8000000
section
namespace Go.Smd
open Go.RowKit Go.Proofs Go.Proofs.Tryz
theorem ziI (A B:List LE)(hl:(A.length+B.length)*32≤140737488351232)(hA:∀x∈A,ZR x)(hB:∀x∈B,ZR x):
  ACalls prog 150 [.c (.d (.pt [zal A])),.c (.d (.pt [zal B]))] (fun r=>r= .c (.d (.pt [zal (zgE A B)]))):=by
 have bA:A.length≤9223372036854775807:=by omega
 have bB:B.length≤9223372036854775807:=by omega
 have tA:List.take A.length (A.map leD)=A.map leD:=List.take_of_length_le (by simp)
 refine zf [(4,([14],[(0,[]),(1,[]),(2,[]),(3,[]),(4,[]),(5,[]),(6,[]),(7,[]),(8,[]),(9,[]),(10,[]),(11,[]),(12,[]),(13,[]),(14,[])])),(7,([14],[(0,[]),(1,[]),(2,[]),(3,[]),(4,[]),(5,[]),(6,[]),(7,[]),(8,[]),(9,[]),(10,[]),(11,[]),(12,[]),(13,[]),(14,[]),(15,[])]))] func150 (by kernel_rfl) rfl ntmps150 results150 (Nat.le_of_ble_eq_true (by kernel_rfl)) ?_;intro hok w0 S0
 clear hok
 (repeat' (first|(with_reducible first|refine zj (fun _=>?_) (fun _=>?_)|refine zi (fun _=>?_) (fun _=>?_)|refine zk zb (by kernel_rfl) ?_|exact za rfl)|(simp -dsimp)));(all_goals try with_reducible refine za ?_)
 refine zF (fun x:Nat×Nat×Nat×List LE=>⟨[(0,.c (.d (.pt [zal A]))),(1,.c (.d (.pt [zal B]))),(5,.c (.own 9 0)),(6,aI x.1),(7,aI x.2.1)],[(9,.cells [.gs 77 x.2.2.1] 215),(77,.arr x.2.2.1 101 (x.2.2.2.map leD))]⟩)
  (fun x=>x.1≤A.length∧x.2.1≤B.length∧x.2.2.2++zgE (A.drop x.1) (B.drop x.2.1)=zgE A B∧x.2.2.2.length≤x.1) (fun x=>A.length - x.1+(B.length - x.2.1)) (0,0,0,[]) ?_ (by simp) ?_
 ·refine Weak.trans (Weak.adopt (z:=9) (id:=77) (T:=215) (E:=101) rfl rfl (by decide)) ?_
  exact Weak.same (by simp -dsimp) (by simp -dsimp) (by first|rfl|(simp [zg,Av.ids,Ow.ids,Cl.ids,Go.Smd.keys];done))
 ·rintro ⟨i,j,ver,R⟩ ⟨hi,hj,hR,hRl⟩ K hK
  simp only at hi hj hR hRl
  by_cases hlt:i<A.length
  ·by_cases hlt2:j<B.length
   ·have hw:IntKind.wrap .i64 ((i:Int)+1)=((i+1:Nat):Int):=by rw[zq]<;>omega
    have hw2:IntKind.wrap .i64 ((j:Int)+1)=((j+1:Nat):Int):=by rw[zq]<;>omega
    have hb:(R.length+1)*32≤140737488351232:=by omega
    have c1:=zee _ _ (hA _ (List.getElem_mem hlt)) (hB _ (List.getElem_mem hlt2))
    have c2:=zee _ _ (hB _ (List.getElem_mem hlt2)) (hA _ (List.getElem_mem hlt))
    obtain ⟨a0,a1,a2,a3,ha,ha'⟩:=zbl A[i]
    obtain ⟨b0,b1,b2,b3,hb',hb''⟩:=zbl B[j]
    rw[ha',hb''] at c1 c2
    rw[drop_cons hlt,drop_cons hlt2,zgE] at hR
    by_cases h1:ZM A[i] B[j]<0
    ·rw[if_pos h1,←drop_cons hlt2] at hR
     rw[decide_eq_true h1] at c1
     (repeat' (first|(with_reducible first|refine zj (fun _=>?_) (fun _=>?_)|refine zi (fun _=>?_) (fun _=>?_)|refine zl (c1) (by first|rfl|(simp -dsimp [bA,bB,hlt,hlt2,ha,hb',hw,hw2];done)) ?_|(refine zx (c1) rfl ?_ ?_ ?_;iterate 2 exact by first|rfl|(simp -dsimp [bA,bB,hlt,hlt2,ha,hb',hw,hw2];done))|refine zk zb (by kernel_rfl) ?_|exact za rfl)|(simp -dsimp [bA,bB,hlt,hlt2,ha,hb',hw,hw2])));(all_goals try with_reducible refine za ?_)
     refine zcB ?_
     refine Zz zb [[],[],[1],[1,2],[1,2,3],[],[5],[5,6],[5,6,7],[],[5,6,7,8,9],[5,6,7,8,9,10],[5,6,7,8,9,10,11],[1,2,3,4,5,6,7,8,9,10,11,12],[0,1,2,3,4,5,6,7,8,9,10,11,12,13],[0,1,2,3,4,5,6,7,8,9,10,11,12,13,14],[0,1,2,3,4,5,6,7,8,9,10,11,12,13,14,15]] [0,1,2,3,4,5,6,7,8,9,10,11,12,13,14,15,16] [12,13,16] [([],⟨[(41,?m41u2),(42,?m42u2),(43,?m43u2),(44,?m44u2),(45,?m45u2),(46,?m46u2),(47,?m47u2),(48,?m48u2),(49,?m49u2),(50,?m50u2),(51,?m51u2),(52,?m52u2),(53,?m53u2),(54,?m54u2),(55,?m55u2),(56,?m56u2)],?bu2,?o0u2⟩),([12],⟨[(41,?m41u2),(42,?m42u2),(43,?m43u2),(44,?m44u2),(45,?m45u2),(46,?m46u2),(47,?m47u2),(48,?m48u2),(49,?m49u2),(50,?m50u2),(51,?m51u2),(52,?m52u2),(53,?m53u2),(54,?m54u2),(55,?m55u2),(56,?m56u2)],?bu2,?o1u2⟩),([12,13],⟨[(41,?m41u2),(42,?m42u2),(43,?m43u2),(44,?m44u2),(45,?m45u2),(46,?m46u2),(47,?m47u2),(48,?m48u2),(49,?m49u2),(50,?m50u2),(51,?m51u2),(52,?m52u2),(53,?m53u2),(54,?m54u2),(55,?m55u2),(56,?m56u2)],?bu2,?o2u2⟩),([12,13,16],⟨[(41,?m41u2),(42,?m42u2),(43,?m43u2),(44,?m44u2),(45,?m45u2),(46,?m46u2),(47,?m47u2),(48,?m48u2),(49,?m49u2),(50,?m50u2),(51,?m51u2),(52,?m52u2),(53,?m53u2),(54,?m54u2),(55,?m55u2),(56,?m56u2)],?bu2,?o3u2⟩)] ?hoku2 rfl rfl ?hbu2 ?hou2 ?hstu2 ?hku2
     case' hbu2=>rfl
     case' hou2=>rfl
     case' hstu2=>refine ⟨⟨?v0u2,?s0u2⟩,⟨⟨?v1u2,?s1u2⟩,⟨⟨?v2u2,?s2u2⟩,⟨⟨?v3u2,?s3u2⟩,True.intro⟩⟩⟩⟩
     case v0u2=>
      iterate 12 refine ⟨.inr ⟨_,rfl,zm (zY rfl rfl (by simp -dsimp [ze,bA,hlt,ha,zc,hb]<;>with_reducible rfl))⟩,?_⟩
      iterate 5 refine ⟨.inl (by kernel_rfl),?_⟩
      exact True.intro
     case s0u2=>
      refine ⟨.inr ⟨_,_,rfl,rfl,zI (zaK (hdk:=rfl) (hW:=rfl) (hq:=by simp -dsimp [ze,bA,hlt,ha,zc,hb]<;>(first|done|rfl|exact ⟨rfl,rfl⟩|exact ⟨rfl,rfl,rfl⟩)) (hoo:=rfl) (hv:=by simp -dsimp [ze,bA,hlt,ha,zc,hb]<;>with_reducible rfl)) (by simp -dsimp [ze,zQ,zao,bA,hlt,ha,zc,hb]<;>with_reducible rfl)⟩,?_⟩
      iterate 2 refine ⟨.inl (by kernel_rfl),?_⟩
      exact True.intro
     case v1u2=>
      iterate 5 refine ⟨.inr ⟨_,rfl,zm (zY rfl rfl (by simp -dsimp [ze,bA,hlt,ha,zc,hb]<;>with_reducible rfl))⟩,?_⟩
      iterate 12 refine ⟨.inl (by kernel_rfl),?_⟩
      exact True.intro
     case s1u2=>
      refine ⟨.inl (by kernel_rfl),?_⟩
      refine ⟨.inr ⟨_,_,rfl,rfl,zI (zaK (hdk:=rfl) (hW:=rfl) (hq:=by simp -dsimp [ze,bA,hlt,ha,zc,hb]<;>(first|done|rfl|exact ⟨rfl,rfl⟩|exact ⟨rfl,rfl,rfl⟩)) (hoo:=rfl) (hv:=by simp -dsimp [ze,bA,hlt,ha,zc,hb]<;>with_reducible rfl)) (by simp -dsimp [ze,zQ,zao,bA,hlt,ha,zc,hb]<;>with_reducible rfl)⟩,?_⟩
      refine ⟨.inl (by kernel_rfl),?_⟩
      exact True.intro
     case v2u2=>
      refine ⟨.inr ⟨_,rfl,zm (zY rfl rfl (by simp -dsimp [ze,bA,hlt,ha,zc,hb]<;>with_reducible rfl))⟩,?_⟩
      iterate 13 refine ⟨.inl (by kernel_rfl),?_⟩
      iterate 2 refine ⟨.inr ⟨_,rfl,zm (zY rfl rfl (by simp -dsimp [ze,bA,hlt,ha,zc,hb]<;>with_reducible rfl))⟩,?_⟩
      refine ⟨.inl (by kernel_rfl),?_⟩
      exact True.intro
     case s2u2=>
      iterate 2 refine ⟨.inl (by kernel_rfl),?_⟩
      refine ⟨.inr ⟨_,_,rfl,rfl,zI (zaK (hdk:=rfl) (hW:=rfl) (hq:=by simp -dsimp [ze,bA,hlt,ha,zc,hb]<;>(first|done|rfl|exact ⟨rfl,rfl⟩|exact ⟨rfl,rfl,rfl⟩)) (hoo:=rfl) (hv:=by simp -dsimp [ze,bA,hlt,ha,zc,hb]<;>with_reducible rfl)) (by simp -dsimp [ze,zQ,zao,bA,hlt,ha,zc,hb]<;>with_reducible rfl)⟩,?_⟩
      exact True.intro
     case v3u2=>
      iterate 17 refine ⟨.inl (by kernel_rfl),?_⟩
      exact True.intro
     case s3u2=>
      iterate 3 refine ⟨.inl (by kernel_rfl),?_⟩
      exact True.intro
     case hoku2=>kernel_rfl
     refine ⟨rfl,?_⟩
     (repeat' (first|(with_reducible first|refine zj (fun _=>?_) (fun _=>?_)|refine zi (fun _=>?_) (fun _=>?_)|refine zk zb (by kernel_rfl) ?_|exact za rfl)|(simp -dsimp [hw])));(all_goals try with_reducible refine za ?_)
     refine hK _ (i+1,j,ver+1,R++ [A[i]]) ?_ ⟨by show i+1≤_;omega,hj,by rw[←hR];simp,by simp;omega⟩ (by show A.length - (i+1)+(B.length - j)<A.length - i+(B.length - j);omega)
     simp only [List.map_append,List.map_cons,List.map_nil,ha]
     exact Weak.same (by simp -dsimp) (by simp -dsimp) (by first|rfl|(simp [zg,Av.ids,Ow.ids,Cl.ids,Go.Smd.keys];done))
    ·rw[if_neg h1] at hR
     rw[decide_eq_false h1] at c1
     by_cases h2:ZM B[j] A[i]<0
     ·rw[if_pos h2,←drop_cons hlt] at hR
      rw[decide_eq_true h2] at c2
      (repeat' (first|(with_reducible first|refine zj (fun _=>?_) (fun _=>?_)|refine zi (fun _=>?_) (fun _=>?_)|refine zl (c1) (by first|rfl|(simp -dsimp [bA,bB,hlt,hlt2,ha,hb',hw,hw2];done)) ?_|(refine zx (c1) rfl ?_ ?_ ?_;iterate 2 exact by first|rfl|(simp -dsimp [bA,bB,hlt,hlt2,ha,hb',hw,hw2];done))|refine zl (c2) (by first|rfl|(simp -dsimp [bA,bB,hlt,hlt2,ha,hb',hw,hw2];done)) ?_|(refine zx (c2) rfl ?_ ?_ ?_;iterate 2 exact by first|rfl|(simp -dsimp [bA,bB,hlt,hlt2,ha,hb',hw,hw2];done))|refine zk zb (by kernel_rfl) ?_|exact za rfl)|(simp -dsimp [bA,bB,hlt,hlt2,ha,hb',hw,hw2])));(all_goals try with_reducible refine za ?_)
      refine hK _ (i,j+1,ver,R) ?_ ⟨hi,by show j+1≤_;omega,by rw[←hR],by show R.length≤i;omega⟩ (by show A.length - i+(B.length - (j+1))<A.length - i+(B.length - j);omega)
      exact Weak.same (by simp -dsimp) (by simp -dsimp) (by first|rfl|(simp [zg,Av.ids,Ow.ids,Cl.ids,Go.Smd.keys];done))
     ·rw[if_neg h2] at hR
      rw[decide_eq_false h2] at c2
      (repeat' (first|(with_reducible first|refine zj (fun _=>?_) (fun _=>?_)|refine zi (fun _=>?_) (fun _=>?_)|refine zl (c1) (by first|rfl|(simp -dsimp [bA,bB,hlt,hlt2,ha,hb',hw,hw2];done)) ?_|(refine zx (c1) rfl ?_ ?_ ?_;iterate 2 exact by first|rfl|(simp -dsimp [bA,bB,hlt,hlt2,ha,hb',hw,hw2];done))|refine zl (c2) (by first|rfl|(simp -dsimp [bA,bB,hlt,hlt2,ha,hb',hw,hw2];done)) ?_|(refine zx (c2) rfl ?_ ?_ ?_;iterate 2 exact by first|rfl|(simp -dsimp [bA,bB,hlt,hlt2,ha,hb',hw,hw2];done))|refine zk zb (by kernel_rfl) ?_|exact za rfl)|(simp -dsimp [bA,bB,hlt,hlt2,ha,hb',hw,hw2])));(all_goals try with_reducible refine za ?_)
      refine hK _ (i+1,j+1,ver,R) ?_ ⟨by show i+1≤_;omega,by show j+1≤_;omega,by rw[←hR],by show R.length≤i+1;omega⟩ (by show A.length - (i+1)+(B.length - (j+1))<A.length - i+(B.length - j);omega)
      exact Weak.same (by simp -dsimp) (by simp -dsimp) (by first|rfl|(simp [zg,Av.ids,Ow.ids,Cl.ids,Go.Smd.keys];done))
   ·have hj2:j=B.length:=by omega
    subst hj2
    have hb:(R.length+(A.length - i))*32≤140737488351232:=by omega
    rw[List.drop_of_length_le (Nat.le_refl B.length),zor] at hR
    (repeat' (first|(with_reducible first|refine zj (fun _=>?_) (fun _=>?_)|refine zi (fun _=>?_) (fun _=>?_)|refine zk zb (by kernel_rfl) ?_|exact za rfl)|(simp -dsimp [bA,bB,hlt])));(all_goals try with_reducible refine za ?_)
    refine zcB ?_
    refine Zz zb [[],[],[1],[1,2],[1,2,3],[],[5],[5,6],[5,6,7],[],[5,6,7,8,9],[1,2,3,4,5,6,7,8,9,10],[0,1,2,3,4,5,6,7,8,9,10,11],[0,1,2,3,4,5,6,7,8,9,10,11,12],[0,1,2,3,4,5,6,7,8,9,10,11,12,13]] [0,1,2,3,4,5,6,7,8,9,10,11,12,13,14] [11,14] [([],⟨[(86,?m86u3),(87,?m87u3),(88,?m88u3),(89,?m89u3),(90,?m90u3),(91,?m91u3),(92,?m92u3),(93,?m93u3),(94,?m94u3),(95,?m95u3),(96,?m96u3),(97,?m97u3),(98,?m98u3),(99,?m99u3)],?bu3,?o0u3⟩),([11],⟨[(86,?m86u3),(87,?m87u3),(88,?m88u3),(89,?m89u3),(90,?m90u3),(91,?m91u3),(92,?m92u3),(93,?m93u3),(94,?m94u3),(95,?m95u3),(96,?m96u3),(97,?m97u3),(98,?m98u3),(99,?m99u3)],?bu3,?o1u3⟩),([11,14],⟨[(86,?m86u3),(87,?m87u3),(88,?m88u3),(89,?m89u3),(90,?m90u3),(91,?m91u3),(92,?m92u3),(93,?m93u3),(94,?m94u3),(95,?m95u3),(96,?m96u3),(97,?m97u3),(98,?m98u3),(99,?m99u3)],?bu3,?o2u3⟩)] ?hoku3 rfl rfl ?hbu3 ?hou3 ?hstu3 ?hku3
    case' hbu3=>rfl
    case' hou3=>rfl
    case' hstu3=>refine ⟨⟨?v0u3,?s0u3⟩,⟨⟨?v1u3,?s1u3⟩,⟨⟨?v2u3,?s2u3⟩,True.intro⟩⟩⟩
    case v0u3=>
     iterate 11 refine ⟨.inr ⟨_,rfl,zm (zY rfl rfl (by simp -dsimp [ze,bA,hlt,zc,hb,hi,tA]<;>with_reducible rfl))⟩,?_⟩
     iterate 4 refine ⟨.inl (by kernel_rfl),?_⟩
     exact True.intro
    case s0u3=>
     refine ⟨.inr ⟨_,_,rfl,rfl,zI (zaK (hdk:=rfl) (hW:=rfl) (hq:=by simp -dsimp [ze,bA,hlt,zc,hb,hi,tA]<;>(first|done|rfl|exact ⟨rfl,rfl⟩|exact ⟨rfl,rfl,rfl⟩)) (hoo:=rfl) (hv:=by simp -dsimp [ze,bA,hlt,zc,hb,hi,tA]<;>with_reducible rfl)) (by simp -dsimp [ze,zQ,zao,bA,hlt,zc,hb,hi,tA]<;>with_reducible rfl)⟩,?_⟩
     refine ⟨.inl (by kernel_rfl),?_⟩
     exact True.intro
    case v1u3=>
     refine ⟨.inr ⟨_,rfl,zm (zY rfl rfl (by simp -dsimp [ze,bA,hlt,zc,hb,hi,tA]<;>with_reducible rfl))⟩,?_⟩
     iterate 11 refine ⟨.inl (by kernel_rfl),?_⟩
     iterate 2 refine ⟨.inr ⟨_,rfl,zm (zY rfl rfl (by simp -dsimp [ze,bA,hlt,zc,hb,hi,tA]<;>with_reducible rfl))⟩,?_⟩
     refine ⟨.inl (by kernel_rfl),?_⟩
     exact True.intro
    case s1u3=>
     refine ⟨.inl (by kernel_rfl),?_⟩
     refine ⟨.inr ⟨_,_,rfl,rfl,zI (zaK (hdk:=rfl) (hW:=rfl) (hq:=by simp -dsimp [ze,bA,hlt,zc,hb,hi,tA]<;>(first|done|rfl|exact ⟨rfl,rfl⟩|exact ⟨rfl,rfl,rfl⟩)) (hoo:=rfl) (hv:=by simp -dsimp [ze,bA,hlt,zc,hb,hi,tA]<;>with_reducible rfl)) (by simp -dsimp [ze,zQ,zao,bA,hlt,zc,hb,hi,tA]<;>with_reducible rfl)⟩,?_⟩
     exact True.intro
    case v2u3=>
     iterate 15 refine ⟨.inl (by kernel_rfl),?_⟩
     exact True.intro
    case s2u3=>
     iterate 2 refine ⟨.inl (by kernel_rfl),?_⟩
     exact True.intro
    case hoku3=>kernel_rfl
    refine ⟨rfl,?_⟩
    (repeat' (first|(with_reducible first|refine zj (fun _=>?_) (fun _=>?_)|refine zi (fun _=>?_) (fun _=>?_)|refine zk zb (by kernel_rfl) ?_|exact za rfl)|(simp -dsimp [bA,bB])));(all_goals try with_reducible refine za ?_)
    rw[←hR]
    simp
  ·have hi2:i=A.length:=by omega
   subst hi2
   rw[List.drop_of_length_le (Nat.le_refl A.length),zos] at hR
   (repeat' (first|(with_reducible first|refine zj (fun _=>?_) (fun _=>?_)|refine zi (fun _=>?_) (fun _=>?_)|refine zk zb (by kernel_rfl) ?_|exact za rfl)|(simp -dsimp [bA,bB])));(all_goals try with_reducible refine za ?_)
   rw[←hR]
   simp
theorem zus (k:Int)(s:ByteArray)(keys:List ByteArray)(l:List GV)(a b:Int)(c:Nat)(d:ByteArray)(e:List ByteArray)(f:List GV)(n:Int):evD ⟨k,s,keys,l,.mk a b c d e f,n⟩= [dI k,dS s,ZS keys,zaD l,dI a,dI b,dF c,dS d,ZS e,zaD f,dI n]:=by
 simp only [evD,zbx,List.cons_append,List.nil_append]
theorem zkc (e:EV)(h:EVs e):(CE e).keys.length*16≤140737488351232∧(CE e).l.length*88≤140737488351232:=by
 have h1:=h.hk
 have h2:=h.hl
 unfold CE
 split
 ·simp;omega
 ·split
  ·simp
  ·split<;>simp
theorem zwU (e:EV)(h1:Za (CE e).v=true)(h2:(CE e).l.all Za=true):OE e:=by
 refine ⟨fun hk p hp=>?_,fun hk=>?_⟩
 ·have k1:e.k=1:=by unfold rkE at hk;split at hk<;>omega
  unfold CE at h2
  rw[if_pos k1] at h2
  obtain ⟨i,hi,rfl⟩:=List.getElem_of_mem hp
  rw[List.length_zip] at hi
  rw[List.getElem_zip]
  refine List.all_eq_true.1 h2 _ (List.mem_map.2 ⟨_,?_,rfl⟩)
  exact List.mem_take_iff_getElem.2 ⟨i,by omega,rfl⟩
 ·have k1:e.k=2:=by unfold rkE at hk;split at hk<;>omega
  unfold CE at h1
  rw[if_neg (by omega),if_pos k1] at h1
  exact h1
theorem zje (e:EV)(h:EVs e):ACalls prog 15 [evA e] (fun r=>∃b,r=aV (.bool b)∧(b=true→OE e)):=by
 have hc:=zg5 e h.hk h.hl
 obtain ⟨hk2,hl2⟩:=zkc e h
 have hO:=zwU e
 obtain ⟨k2,s2,ks2,l2,a2,b2,c2,d2,e2,f2,n2,hC⟩:∃k s keys l a b c d e' f n,CE e=⟨k,s,keys,l,.mk a b c d e' f,n⟩:=by
  obtain ⟨k,s,keys,l,⟨a,b,c,d,e',f⟩,n⟩:=CE e
  exact ⟨_,_,_,_,_,_,_,_,_,_,_,rfl⟩
 rw[hC] at hk2 hl2 hO hc
 dsimp only at hk2 hl2 hO
 have ho:=zjR (.mk a2 b2 c2 d2 e2 f2)
 have hv:=zhf l2 hl2
 have hs:=zme k2 s2 ks2 l2 a2 b2 c2 d2 e2 f2 n2 hk2 hl2
 generalize Za (.mk a2 b2 c2 d2 e2 f2)=o1 at ho hO
 generalize l2.all Za=o2 at hv hO
 obtain ⟨k,s,keys,l,⟨a,b,c,d,p,f⟩,n⟩:=e
 rw[zdD] at ho
 rw[zdE] at hc ⊢
 rw[zdE] at hc
 cases o1<;>cases o2
 all_goals
  refine zf [] func15 (by kernel_rfl) rfl ntmps15 results15 (Nat.le_of_ble_eq_true (by kernel_rfl)) ?_;intro hok w0 S0
  clear hok
  (repeat' (first|(with_reducible first|refine zj (fun _=>?_) (fun _=>?_)|refine zi (fun _=>?_) (fun _=>?_)|refine zl (hc) (by first|rfl|(simp -dsimp;done)) ?_|refine zl (ho) (by first|rfl|(simp -dsimp;done)) ?_|refine zl (hv) (by first|rfl|(simp -dsimp;done)) ?_)|((with_reducible refine zkW (hs) (by first|rfl|(simp -dsimp;done)) ?_);rintro _ ⟨x,rfl⟩ _)|((with_reducible refine zkX (hs) rfl ?_ ?_ ?_;iterate 2 exact by first|rfl|(simp -dsimp;done));rintro _ ⟨x,rfl⟩ _)|(with_reducible first|refine zk zb (by kernel_rfl) ?_|exact za rfl)|(simp -dsimp)));(all_goals try with_reducible refine za ?_)
 all_goals exact zd6 ⟨_,rfl,fun h=>by first|exact hO rfl rfl|cases h⟩
theorem ziJ (L:List (List EV))(hl:L.length≤4000000000000)(hL:∀p∈L,p.length*168≤140737488351232∧∀e∈p,EVs e):ACalls prog 14 [.c (.d (zU L))] (fun r=>∃b,r=aV (.bool b)∧(b=true→∀p∈L,∀e∈p,OE e)):=by
 refine zf [] func14 (by kernel_rfl) rfl ntmps14 results14 (Nat.le_of_ble_eq_true (by kernel_rfl)) ?_;intro hok w0 S0
 clear hok
 have b1:L.length≤9223372036854775807:=by omega
 (repeat' (first|(with_reducible first|refine zj (fun _=>?_) (fun _=>?_)|refine zi (fun _=>?_) (fun _=>?_)|refine zk zb (by kernel_rfl) ?_|exact za rfl)|(simp -dsimp [b1])));(all_goals try with_reducible refine za ?_)
 refine zF (fun i:Nat=>⟨[(7,.c (.d (zU L))),(8,aI L.length),(9,aI i)],[]⟩) (fun i=>i≤L.length∧∀p∈L.take i,∀e∈p,OE e) (fun i=>L.length - i) 0 ?_ ⟨Nat.zero_le _,by simp⟩ ?_
 ·exact Weak.same (by simp -dsimp) (by simp -dsimp) (by first|rfl|(simp [zg,Av.ids,Ow.ids,Cl.ids,Go.Smd.keys];done))
 ·rintro i ⟨hi,hdone⟩ K hK
  by_cases hlt:i<L.length
  ·have hw:IntKind.wrap .i64 ((i:Int)+1)=((i+1:Nat):Int):=by rw[zq]<;>omega
   obtain ⟨hp1,hp2⟩:=hL _ (List.getElem_mem hlt)
   have b2:L[i].length≤9223372036854775807:=by omega
   (repeat' (first|(with_reducible first|refine zj (fun _=>?_) (fun _=>?_)|refine zi (fun _=>?_) (fun _=>?_)|refine zk zb (by kernel_rfl) ?_|exact za rfl)|(simp -dsimp [b1,hlt,b2])));(all_goals try with_reducible refine za ?_)
   refine zF (fun j:Nat=>⟨[(7,.c (.d (zU L))),(8,aI L.length),(9,aI i),(13,.c (.d (z9 L[i]))),(14,aI L[i].length),(15,aI j)],[]⟩) (fun j=>j≤L[i].length∧∀e∈L[i].take j,OE e) (fun j=>L[i].length - j) 0 ?_ ⟨Nat.zero_le _,by simp⟩ ?_
   ·exact Weak.same (by simp -dsimp) (by simp -dsimp) (by first|rfl|(simp [zg,Av.ids,Ow.ids,Cl.ids,Go.Smd.keys];done))
   ·rintro j ⟨hj,hd2⟩ K2 hK2
    by_cases hlt2:j<L[i].length
    ·have hw2:IntKind.wrap .i64 ((j:Int)+1)=((j+1:Nat):Int):=by rw[zq]<;>omega
     have hc:=zje _ (hp2 _ (List.getElem_mem hlt2))
     (repeat' (first|(with_reducible first|refine zj (fun _=>?_) (fun _=>?_)|refine zi (fun _=>?_) (fun _=>?_))|((with_reducible refine zkW (hc) (by first|rfl|(simp -dsimp [b2,hlt2,hw2];done)) ?_);rintro _ ⟨x,rfl,hx⟩ _)|((with_reducible refine zkX (hc) rfl ?_ ?_ ?_;iterate 2 exact by first|rfl|(simp -dsimp [b2,hlt2,hw2];done));rintro _ ⟨x,rfl,hx⟩ _)|(with_reducible first|refine zk zb (by kernel_rfl) ?_|exact za rfl)|(simp -dsimp [b2,hlt2,hw2])));(all_goals try with_reducible refine za ?_)
     ·exact zd6 ⟨_,rfl,fun h=>by cases h⟩
     ·rename_i h0
      refine hK2 _ (j+1) ?_ ⟨by omega,fun e he=>?_⟩ (by omega)
      ·exact Weak.same (by simp -dsimp) (by simp -dsimp) (by first|rfl|(simp [zg,Av.ids,Ow.ids,Cl.ids,Go.Smd.keys];done))
      ·rw[List.take_succ_eq_append_getElem hlt2] at he
       rcases List.mem_append.1 he with he|he
       ·exact hd2 e he
       ·simp at he;subst he;exact hx (by simpa using h0)
    ·(repeat' (first|(with_reducible first|refine zj (fun _=>?_) (fun _=>?_)|refine zi (fun _=>?_) (fun _=>?_)|refine zk zb (by kernel_rfl) ?_|exact za rfl)|(simp -dsimp [hlt2,hw])));(all_goals try with_reducible refine za ?_)
     refine hK _ (i+1) ?_ ⟨by omega,fun p hp=>?_⟩ (by omega)
     ·exact Weak.same (by simp -dsimp) (by simp -dsimp) (by first|rfl|(simp [zg,Av.ids,Ow.ids,Cl.ids,Go.Smd.keys];done))
     ·rw[List.take_succ_eq_append_getElem hlt] at hp
      rcases List.mem_append.1 hp with hp|hp
      ·exact hdone p hp
      ·simp at hp;subst hp
       rw[List.take_of_length_le (by omega)] at hd2
       exact hd2
  ·(repeat' (first|(with_reducible first|refine zj (fun _=>?_) (fun _=>?_)|refine zi (fun _=>?_) (fun _=>?_)|refine zk zb (by kernel_rfl) ?_|exact za rfl)|(simp -dsimp [hlt])));(all_goals try with_reducible refine za ?_)
   rw[List.take_of_length_le (by omega)] at hdone
   exact zd6 ⟨_,rfl,fun _=>hdone⟩
theorem zmv {e:EV}(he:OE e){S:List EV}(hS:∀x∈S,OE x)(hs:zaQ S):zgC e S↔∃x∈S,zw x e=0:=by
 constructor
 ·rintro ⟨x,hx,h⟩
  exact ⟨x,List.mem_of_getElem? hx,h⟩
 ·rintro ⟨x,hx,h⟩
  obtain ⟨j,hj,rfl⟩:=List.getElem_of_mem hx
  have h1:lbE e S≤j:=Nat.le_of_not_lt fun hlt=>by have:=zny e S j hj hlt;omega
  rcases Nat.lt_or_eq_of_le h1 with h2|h2
  ·have hb:lbE e S<S.length:=by omega
   have h3:=znz e he S hS hs (lbE e S) hb (Nat.le_refl _)
   have h4:=List.pairwise_iff_getElem.1 hs (lbE e S) j hb hj h2
   have h5:=zo.lt_le (hS _ (List.getElem_mem hb)) (hS _ (List.getElem_mem hj)) he h4 (by omega)
   omega
  ·exact ⟨S[j],by rw[h2];simp [hj],h⟩
theorem zg6 {e y:EV}:∀{S:List EV},y∈S→y∈zb8 e S
 | [],h=>by cases h
 |x::r,h=>by
  simp only [zb8]
  split
  ·rcases List.mem_cons.1 h with h|h
   ·simp [h]
   ·exact .tail _ (zg6 h)
  ·split
   ·exact h
   ·exact .tail _ h
theorem zmw {e:EV}(he:OE e):∀S:List EV,∃x∈zb8 e S,zw x e=0
 | []=>⟨e,by simp [zb8],zo.refl he⟩
 |x::r=>by
  simp only [zb8]
  split
  ·obtain ⟨y,hy,h⟩:=zmw he r
   exact ⟨y,.tail _ hy,h⟩
  ·split
   ·next h=>exact ⟨x,by simp,h⟩
   ·exact ⟨e,by simp,zo.refl he⟩
end Go.Smd
end
