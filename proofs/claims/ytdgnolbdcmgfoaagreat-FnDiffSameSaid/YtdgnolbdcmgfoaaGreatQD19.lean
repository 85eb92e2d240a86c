/- Part 19. -/
import Derived.Test.YtdgnolbdcmgfoaaGreatQD14
import Derived.Test.YtdgnolbdcmgfoaaGreatQD17
import Derived.Test.YtdgnolbdcmgfoaaGreatQD18
import Derived.Test.YtdgnolbdcmgfoaaGreatQD15
set_option linter.unusedVariables false
set_option linter.unusedSimpArgs false
set_option maxRecDepth 100000
set_option maxHeartbeats 8000000
section
namespace Go.Smd
open Go.RowKit Go.Proofs Go.Proofs.Tryz
abbrev zl9:FuncId:=261
@[simp] theorem zxI:ZP prog 474= [none]:=by kernel_rfl
abbrev cI (n:Int):Ow:=.cells [.d (.v (.int .i64 n))] 3
theorem zfq (k:ByteArray)(ss rest:List ByteArray)(j:Nat):(zak k ss j++rest).Perm (ss++k::rest):=by
 unfold zak
 have h:(ss.take j++k::ss.drop j).Perm (k::ss):=by
  have:=List.perm_middle (a:=k) (l₁:=ss.take j) (l₂:=ss.drop j)
  rwa[List.take_append_drop] at this
 exact (h.append_right rest).trans List.perm_middle.symm
theorem zih {k s:ByteArray}{ss:List ByteArray}{p:Nat}(hso:ss.Pairwise fun a b=>blt a b=true)(hs:ss[p]? =some s)(h:blt s k=true):∀q∈ss.take (p+1),blt q k=true:=fun q hq=>by
 obtain ⟨i,hi⟩:=List.getElem?_of_mem hq
 rw[List.getElem?_take] at hi
 split at hi
 ·next hlt=>
  by_cases e:i=p
  ·subst e;rw[hs] at hi;cases hi;exact h
  ·obtain ⟨h1,rfl⟩:=List.getElem?_eq_some_iff.1 hi
   obtain ⟨h2,rfl⟩:=List.getElem?_eq_some_iff.1 hs
   exact Zv (List.pairwise_iff_getElem.1 hso i p h1 h2 (by omega)) h
 ·cases hi
theorem zma {k s:ByteArray}{ss rest R2:List ByteArray}{p:Nat}(hR2:R2=zak k ss (p+1)++rest)(hs:ss[p]? =some s):((zd7 R2).set (p+1) [.v (.string s)]).set p [.v (.string k)]=zd7 (zak k ss p++rest):=by
 have hlt:=(List.getElem?_eq_some_iff.1 hs).1
 have hpl:=zad k ss (p+1)
 subst hR2
 show ((List.map (fun s=>[D.v (.string s)]) _).set (p+1) ((fun s=>[D.v (.string s)]) s)).set p ((fun s=>[D.v (.string s)]) k)=_
 rw[←List.map_set,←List.map_set,List.set_append_left _ _ (by omega),List.set_append_left _ _ (by rw[List.length_set];omega),znq k hs]
def zbp (c:Tree→Tree→Int)(m1 m2:List (ByteArray×Tree))(i:Nat)(k:ByteArray):Int:=
 if i=m1.length then -1 else if i=m2.length then 1 else match zai m1 k,zai m2 k with
  |none,_=>1
  |some _,none=> -1
  |some x,some y=>c x y
def zc8 (c:Tree→Tree→Int)(m1 m2:List (ByteArray×Tree)):Nat→List ByteArray→Int
 |_,[]=>0
 |i,k::ks=>if zbp c m1 m2 i k≠0 then zbp c m1 m2 i k else zc8 c m1 m2 (i+1) ks
theorem zmb {m:List (ByteArray×Tree)}{k:ByteArray}{t:Tree}(h:zai m k=some t):(k,t)∈m:=by
 unfold zai at h
 obtain ⟨p,hp,rfl⟩:=Option.map_eq_some_iff.1 h
 have h1:=List.find?_some hp
 have h2:=List.mem_of_find?_eq_some hp
 have:p.1=k:=by simpa using h1
 rw[←this];exact h2
theorem zjM {m:List (ByteArray×Tree)}{k:ByteArray}(h:¬k∈m.map (·.1)):zai m k=none:=by
 unfold zai
 rw[List.find?_eq_none.2 fun p hp=>?_];rfl
 intro e
 exact h (List.mem_map.2 ⟨p,hp,by simpa using e⟩)
theorem zpq {m:List (ByteArray×Tree)}{k:ByteArray}(h:k∈m.map (·.1)):(zai m k).isSome=true:=by
 obtain ⟨p,hp,rfl⟩:=List.mem_map.1 h
 unfold zai
 rw[Option.isSome_map,List.find?_isSome]
 exact ⟨p,hp,by simp⟩
def zbB (m1 m2:List (ByteArray×Tree))(ss:List ByteArray):Prop:=ss.Pairwise (fun a b=>blt a b=true)∧∀q,q∈ss↔q∈m1.map (·.1)∨q∈m2.map (·.1)
theorem zrp (c:Tree→Tree→Int)(m1 m2:List (ByteArray×Tree))(hnd1:(m1.map (·.1)).Nodup)(hnd2:(m2.map (·.1)).Nodup)(hl:m1.length+m2.length≤4000000000000)(hne:¬(m1.length=0∧m2.length=0))
  (hc:∀x∈m1,∀y∈m2,ACalls prog zbm [Z4,.c (.d (dV x.2)),.c (.d (dV y.2))] (fun r=>r=aV (.int .i64 (c x.2 y.2)))):
  AProc prog 366 [Z4,.c (.d (dM m1)),.c (.d (dM m2)),.c (.fn 1000000000)]
   [(1000000000,.clo (.fn zl9) [.own 1000000001 0,.own 1000000002 0,.own 1000000003 0,.own 1000000004 0,.own 1000000005 0]),(1000000001,cI 0),(1000000002,cI m1.length),(1000000003,cI 0),(1000000004,cI m2.length),(1000000005,.cells [.d zeB] 194)]
   (fun r own'=>∃x:List ByteArray×Bool,zbB m1 m2 x.1∧r=aV (.bool x.2)∧zd own' 1000000003=some (cI (zc8 c m1 m2 0 x.1))):=by
 have hb1:16*m1.length≤281474976710656:=by omega
 have hb2:16*m2.length≤281474976710656:=by omega
 refine zaj [(21,([],[(0,[]),(1,[]),(2,[]),(3,[]),(4,[]),(5,[]),(6,[]),(7,[]),(8,[]),(9,[]),(10,[]),(11,[]),(12,[]),(13,[])])),(23,([],[(0,[]),(1,[]),(3,[]),(4,[]),(5,[]),(6,[]),(7,[]),(8,[]),(9,[]),(10,[]),(11,[]),(12,[]),(13,[]),(14,[]),(2,[15]),(15,[]),(16,[]),(17,[])]))] func366 (by kernel_rfl) rfl ntmps366 results366 (Nat.le_of_ble_eq_true (by kernel_rfl)) ?_;intro hok w0 S0
 (repeat' (first|(with_reducible first|refine zj (fun _=>?_) (fun _=>?_)|refine zi (fun _=>?_) (fun _=>?_)|refine zl (zcD m1) (by first|rfl|(simp -dsimp [hb1,hb2,Zx];done)) ?_|(refine zx (zcD m1) rfl ?_ ?_ ?_;iterate 2 exact by first|rfl|(simp -dsimp [hb1,hb2,Zx];done))|refine zl (zcD m2) (by first|rfl|(simp -dsimp [hb1,hb2,Zx];done)) ?_|(refine zx (zcD m2) rfl ?_ ?_ ?_;iterate 2 exact by first|rfl|(simp -dsimp [hb1,hb2,Zx];done)))|((with_reducible apply zl4 (ρ:=[(1000000000,45),(1000000001,12),(1000000002,40)]) 7 (zno m1 hnd1 0 [] (by simp only [List.length_nil];omega)));(case hc=>simp -dsimp [hb1,hb2,Zx]<;>first|exact ⟨rfl,rfl,rfl⟩|exact ⟨rfl,rfl⟩|done);(case hx=>simp -dsimp [hb1,hb2,Zx]<;>with_reducible rfl);(case ho=>simp -dsimp [hb1,hb2,Zx]);(case hh=>simp -dsimp [hb1,hb2,Zx]);(case hb=>intro x hx;simp -dsimp [hb1,hb2,Zx]);intro _ _)|((with_reducible apply zl4 (ρ:=[(1000000000,51),(1000000001,12),(1000000002,40),(1000000003,5)]) 7 (by rename_i q hq;exact znp m1 m2 hnd1 hnd2 m1.length q (by have:=hq.length_eq;simp only [List.length_map] at this;omega)));(case hc=>simp -dsimp [hb1,hb2,Zx]<;>first|exact ⟨rfl,rfl,rfl⟩|exact ⟨rfl,rfl⟩|done);(case hx=>simp -dsimp [hb1,hb2,Zx]<;>with_reducible rfl);(case ho=>simp -dsimp [hb1,hb2,Zx]);(case hh=>simp -dsimp [hb1,hb2,Zx]);(case hb=>intro x hx;simp -dsimp [hb1,hb2,Zx]);intro _ _)|(with_reducible first|refine zk zb (by kernel_rfl) ?_|exact za rfl)|(simp -dsimp [hb1,hb2,Zx])));(all_goals try with_reducible refine za ?_)
 all_goals first|(exfalso;apply hne;simp_all;done)|skip
 all_goals (
  rename_i q1 hq1 q2 hq2
  obtain ⟨V,hV⟩:∃V,V=m1.length+(q2.filter (zbM m1)).length:=⟨_,rfl⟩
  obtain ⟨L,hL⟩:∃L,L=q1++q2.filter (zbM m1):=⟨_,rfl⟩
  have hLl:L.length≤4000000000000:=by
   rw[hL,List.length_append]
   have h1:=hq1.length_eq;have h2:=hq2.length_eq;have h3:=List.length_filter_le (zbM m1) q2
   simp only [List.length_map] at h1 h2
   omega
  have hin:∀q,q∈L↔q∈m1.map (·.1)∨q∈m2.map (·.1):=fun q=>by
   rw[hL,List.mem_append,List.mem_filter,hq1.mem_iff,hq2.mem_iff]
   constructor
   ·rintro (h|h)
    ·exact .inl h
    ·exact .inr h.1
   ·rintro (h|h)
    ·exact .inl h
    ·by_cases h1:q∈m1.map (·.1)
     ·exact .inl h1
     ·exact .inr ⟨h,by rw[zbM,zjM h1];rfl⟩
  have hLnd:L.Nodup:=by
   rw[hL,List.nodup_append]
   refine ⟨hq1.nodup_iff.2 hnd1,(hq2.nodup_iff.2 hnd2).filter _,fun a ha b hb e=>?_⟩
   subst e
   have h1:=(List.mem_filter.1 hb).2
   have h2:=zpq (hq1.mem_iff.1 ha)
   simp [zbM,h2] at h1
  obtain ⟨x0,L0,hL0⟩:∃x0 L0,L=x0::L0:=by
   cases hLc:L with
   |nil=>
    exfalso
    apply hne
    have h1:∀q,¬(q∈m1.map (·.1)∨q∈m2.map (·.1)):=fun q hq=>by have:=(hin q).2 hq;rw[hLc] at this;cases this
    constructor
    ·cases m1 with
     |nil=>rfl
     |cons p l=>exact absurd (.inl (by simp)) (h1 p.1)
    ·cases m2 with
     |nil=>rfl
     |cons p l=>exact absurd (.inr (by simp)) (h1 p.1)
   |cons x l=>exact ⟨x,l,rfl⟩
  refine zF (fun x:List ByteArray×List ByteArray=>⟨[(0,Z4),(2,.c (.d (dM m2))),(3,.c (.fn 1000000000)),(5,.c (.own 5 0)),(12,.c (.own 12 0)),(13,aV (.int .i64 x.1.length))],[(12,.cells [.gs 40 V] zem),(40,.arr V zeC (zd7 (x.1++x.2))),(5,.cells [.d (dM m1)] 329),(1000000000,.clo (.fn zl9) [.own 1000000001 0,.own 1000000002 0,.own 1000000003 0,.own 1000000004 0,.own 1000000005 0]),(1000000001,cI 0),(1000000002,cI m1.length),(1000000003,cI 0),(1000000004,cI m2.length),(1000000005,.cells [.d zeB] 194)]⟩)
   (fun x=>x.1.Pairwise (fun a b=>blt a b=true)∧(x.1++x.2).Perm L∧1≤x.1.length) (fun x=>x.2.length) ([x0],L0) ?_ ⟨List.pairwise_singleton ..,by rw[hL0];exact List.Perm.refl _,Nat.le_refl _⟩ ?_
  ·have e1: [x0]++L0=q1++q2.filter (zbM m1):=by rw[←hL,hL0];rfl
   simp only [e1]
   exact Weak.same (by simp -dsimp [hV]) (by simp -dsimp [hV]) (by first|rfl|(simp [zg,Av.ids,Ow.ids,Cl.ids,Go.Smd.keys];done))
  ·rintro ⟨ss,rest⟩ ⟨hso,hpm,h1l⟩ K hK
   dsimp only at hso hpm h1l hK ⊢
   have hlen:=hpm.length_eq
   rw[List.length_append] at hlen
   have hnd2':(ss++rest).Nodup:=hpm.nodup_iff.2 hLnd
   cases rest with
   |nil=>
    simp only [List.append_nil] at hlen hnd2' hpm ⊢
    have hmem:∀q,q∈ss↔q∈m1.map (·.1)∨q∈m2.map (·.1):=fun q=>by rw[hpm.mem_iff];exact hin q
    have hlt:¬((ss.length:Int)<ss.length):=by omega
    have hl9:ss.length≤9223372036854775807:=by omega
    (repeat' (first|(with_reducible first|refine zj (fun _=>?_) (fun _=>?_)|refine zi (fun _=>?_) (fun _=>?_)|refine zk zb (by kernel_rfl) ?_|exact za rfl)|(simp -dsimp [hlt,hl9])));(all_goals try with_reducible refine za ?_)
    refine zF (fun i:Nat=>⟨[(0,Z4),(2,.c (.d (dM m2))),(3,.c (.fn 1000000000)),(5,.c (.own 5 0)),(92,.c (.gs 40 V)),(93,aV (.int .i64 ss.length)),(94,aV (.int .i64 i))],[(40,.arr V zeC (zd7 (ss))),(5,.cells [.d (dM m1)] 329),(1000000000,.clo (.fn zl9) [.own 1000000001 0,.own 1000000002 0,.own 1000000003 0,.own 1000000004 0,.own 1000000005 0]),(1000000001,cI i),(1000000002,cI m1.length),(1000000003,cI 0),(1000000004,cI m2.length),(1000000005,.cells [.d zeB] 194)]⟩)
     (fun i=>i≤ss.length∧zc8 c m1 m2 0 ss=zc8 c m1 m2 i (ss.drop i)) (fun i=>ss.length - i) 0 ?_ ⟨Nat.zero_le _,rfl⟩ ?_
    ·exact Weak.same (by simp -dsimp) (by simp -dsimp) (by first|rfl|(simp [zg,Av.ids,Ow.ids,Cl.ids,Go.Smd.keys];done))
    ·rintro i ⟨hi,hcs⟩ K3 hK3
     by_cases hlt2:i<ss.length
     ·have hi2:(i:Int)<ss.length:=by omega
      have hi0:(0:Int)≤(i:Int):=by omega
      have hwk:IntKind.wrap .i64 ((i:Int)+1)=(i:Int)+1:=by rw[zq]<;>omega
      obtain ⟨k,hk⟩:∃k,k=ss[i]:=⟨_,rfl⟩
      have hgk:ss[i]=k:=hk.symm
      have hcs2:zc8 c m1 m2 i (ss.drop i)=if zbp c m1 m2 i k≠0 then zbp c m1 m2 i k else zc8 c m1 m2 (i+1) (ss.drop (i+1)):=by rw[List.drop_eq_getElem_cons hlt2,hgk];rfl
      cases hg1:zai m1 k with
      |none=>
       cases hg2:zai m2 k with
       |none=>
        have ho1:i=m1.length→zbp c m1 m2 i k= -1:=fun h=>by unfold zbp;rw[if_pos h]
        have ho2:¬i=m1.length→i=m2.length→zbp c m1 m2 i k=1:=fun h h'=>by unfold zbp;rw[if_neg h,if_pos h']
        have ho3:¬i=m1.length→¬i=m2.length→zbp c m1 m2 i k=1:=fun h h'=>by unfold zbp;rw[if_neg h,if_neg h',hg1,hg2]
        (repeat' (first|(with_reducible first|refine zj (fun _=>?_) (fun _=>?_)|refine zi (fun _=>?_) (fun _=>?_)|refine zl (Zr m1 hnd1 _) (by first|rfl|(simp -dsimp [hi2,hi0,hlt2,hgk,hwk,hg1,hg2,dG,zc];done)) ?_|refine zx (Zr m1 hnd1 _) rfl (by first|rfl|(simp -dsimp [hi2,hi0,hlt2,hgk,hwk,hg1,hg2,dG,zc];done)) (by first|rfl|(simp -dsimp [hi2,hi0,hlt2,hgk,hwk,hg1,hg2,dG,zc];done)) ?_|refine zl (Zr m2 hnd2 _) (by first|rfl|(simp -dsimp [hi2,hi0,hlt2,hgk,hwk,hg1,hg2,dG,zc];done)) ?_|refine zx (Zr m2 hnd2 _) rfl (by first|rfl|(simp -dsimp [hi2,hi0,hlt2,hgk,hwk,hg1,hg2,dG,zc];done)) (by first|rfl|(simp -dsimp [hi2,hi0,hlt2,hgk,hwk,hg1,hg2,dG,zc];done)) ?_)|((with_reducible apply zc6 [] (f:=261));(case hc=>simp -dsimp [hi2,hi0,hlt2,hgk,hwk,hg1,hg2,dG,zc];first|exact ⟨rfl,rfl⟩|exact ⟨rfl,rfl,rfl⟩);(case hf=>exact func261);(case hA=>simp -dsimp [hi2,hi0,hlt2,hgk,hwk,hg1,hg2,dG,zc]<;>with_reducible rfl);(case hok=>simp -dsimp [hi2,hi0,hlt2,hgk,hwk,hg1,hg2,dG,zc]);(case hY=>simp -dsimp [hi2,hi0,hlt2,hgk,hwk,hg1,hg2,dG,zc]<;>with_reducible rfl);(case hO=>simp -dsimp [hi2,hi0,hlt2,hgk,hwk,hg1,hg2,dG,zc]<;>with_reducible rfl);(case hn=>kernel_rfl);(case hb=>rfl);(case hN=>exact ntmps261);(case hrs=>exact results261);(case hl=>exact Nat.le_of_ble_eq_true (by kernel_rfl));intro hok w0 S0)|((with_reducible apply zc6 [] (f:=335));(case hc=>simp -dsimp [hi2,hi0,hlt2,hgk,hwk,hg1,hg2,dG,zc];first|exact ⟨rfl,rfl⟩|exact ⟨rfl,rfl,rfl⟩);(case hf=>exact func335);(case hA=>simp -dsimp [hi2,hi0,hlt2,hgk,hwk,hg1,hg2,dG,zc]<;>with_reducible rfl);(case hok=>simp -dsimp [hi2,hi0,hlt2,hgk,hwk,hg1,hg2,dG,zc]);(case hY=>simp -dsimp [hi2,hi0,hlt2,hgk,hwk,hg1,hg2,dG,zc]<;>with_reducible rfl);(case hO=>simp -dsimp [hi2,hi0,hlt2,hgk,hwk,hg1,hg2,dG,zc]<;>with_reducible rfl);(case hn=>kernel_rfl);(case hb=>rfl);(case hN=>exact ntmps335);(case hrs=>exact results335);(case hl=>exact Nat.le_of_ble_eq_true (by kernel_rfl));intro hok w0 S0)|(with_reducible first|refine zk zb (by kernel_rfl) ?_|exact za rfl)|(simp -dsimp [hi2,hi0,hlt2,hgk,hwk,hg1,hg2,dG,zc])));(all_goals try with_reducible refine za ?_)
        ·refine ⟨(ss,_),⟨hso,hmem⟩,rfl,?_⟩
         rw[hcs,hcs2,ho1 (by omega),if_pos (by decide)]
         simp [zd]
        ·refine ⟨(ss,_),⟨hso,hmem⟩,rfl,?_⟩
         rw[hcs,hcs2,ho2 (by omega) (by omega),if_pos (by decide)]
         simp [zd]
        ·refine ⟨(ss,_),⟨hso,hmem⟩,rfl,?_⟩
         rw[hcs,hcs2,ho3 (by omega) (by omega),if_pos (by decide)]
         simp [zd]
       |some y=>
        have ho1:i=m1.length→zbp c m1 m2 i k= -1:=fun h=>by unfold zbp;rw[if_pos h]
        have ho2:¬i=m1.length→i=m2.length→zbp c m1 m2 i k=1:=fun h h'=>by unfold zbp;rw[if_neg h,if_pos h']
        have ho3:¬i=m1.length→¬i=m2.length→zbp c m1 m2 i k=1:=fun h h'=>by unfold zbp;rw[if_neg h,if_neg h',hg1,hg2]
        (repeat' (first|(with_reducible first|refine zj (fun _=>?_) (fun _=>?_)|refine zi (fun _=>?_) (fun _=>?_)|refine zl (Zr m1 hnd1 _) (by first|rfl|(simp -dsimp [hi2,hi0,hlt2,hgk,hwk,hg1,hg2,dG,zc];done)) ?_|refine zx (Zr m1 hnd1 _) rfl (by first|rfl|(simp -dsimp [hi2,hi0,hlt2,hgk,hwk,hg1,hg2,dG,zc];done)) (by first|rfl|(simp -dsimp [hi2,hi0,hlt2,hgk,hwk,hg1,hg2,dG,zc];done)) ?_|refine zl (Zr m2 hnd2 _) (by first|rfl|(simp -dsimp [hi2,hi0,hlt2,hgk,hwk,hg1,hg2,dG,zc];done)) ?_|refine zx (Zr m2 hnd2 _) rfl (by first|rfl|(simp -dsimp [hi2,hi0,hlt2,hgk,hwk,hg1,hg2,dG,zc];done)) (by first|rfl|(simp -dsimp [hi2,hi0,hlt2,hgk,hwk,hg1,hg2,dG,zc];done)) ?_)|((with_reducible apply zc6 [] (f:=261));(case hc=>simp -dsimp [hi2,hi0,hlt2,hgk,hwk,hg1,hg2,dG,zc];first|exact ⟨rfl,rfl⟩|exact ⟨rfl,rfl,rfl⟩);(case hf=>exact func261);(case hA=>simp -dsimp [hi2,hi0,hlt2,hgk,hwk,hg1,hg2,dG,zc]<;>with_reducible rfl);(case hok=>simp -dsimp [hi2,hi0,hlt2,hgk,hwk,hg1,hg2,dG,zc]);(case hY=>simp -dsimp [hi2,hi0,hlt2,hgk,hwk,hg1,hg2,dG,zc]<;>with_reducible rfl);(case hO=>simp -dsimp [hi2,hi0,hlt2,hgk,hwk,hg1,hg2,dG,zc]<;>with_reducible rfl);(case hn=>kernel_rfl);(case hb=>rfl);(case hN=>exact ntmps261);(case hrs=>exact results261);(case hl=>exact Nat.le_of_ble_eq_true (by kernel_rfl));intro hok w0 S0)|((with_reducible apply zc6 [] (f:=335));(case hc=>simp -dsimp [hi2,hi0,hlt2,hgk,hwk,hg1,hg2,dG,zc];first|exact ⟨rfl,rfl⟩|exact ⟨rfl,rfl,rfl⟩);(case hf=>exact func335);(case hA=>simp -dsimp [hi2,hi0,hlt2,hgk,hwk,hg1,hg2,dG,zc]<;>with_reducible rfl);(case hok=>simp -dsimp [hi2,hi0,hlt2,hgk,hwk,hg1,hg2,dG,zc]);(case hY=>simp -dsimp [hi2,hi0,hlt2,hgk,hwk,hg1,hg2,dG,zc]<;>with_reducible rfl);(case hO=>simp -dsimp [hi2,hi0,hlt2,hgk,hwk,hg1,hg2,dG,zc]<;>with_reducible rfl);(case hn=>kernel_rfl);(case hb=>rfl);(case hN=>exact ntmps335);(case hrs=>exact results335);(case hl=>exact Nat.le_of_ble_eq_true (by kernel_rfl));intro hok w0 S0)|(with_reducible first|refine zk zb (by kernel_rfl) ?_|exact za rfl)|(simp -dsimp [hi2,hi0,hlt2,hgk,hwk,hg1,hg2,dG,zc])));(all_goals try with_reducible refine za ?_)
        ·refine ⟨(ss,_),⟨hso,hmem⟩,rfl,?_⟩
         rw[hcs,hcs2,ho1 (by omega),if_pos (by decide)]
         simp [zd]
        ·refine ⟨(ss,_),⟨hso,hmem⟩,rfl,?_⟩
         rw[hcs,hcs2,ho2 (by omega) (by omega),if_pos (by decide)]
         simp [zd]
        ·refine ⟨(ss,_),⟨hso,hmem⟩,rfl,?_⟩
         rw[hcs,hcs2,ho3 (by omega) (by omega),if_pos (by decide)]
         simp [zd]
      |some x=>
       cases hg2:zai m2 k with
       |none=>
        have ho1:i=m1.length→zbp c m1 m2 i k= -1:=fun h=>by unfold zbp;rw[if_pos h]
        have ho2:¬i=m1.length→i=m2.length→zbp c m1 m2 i k=1:=fun h h'=>by unfold zbp;rw[if_neg h,if_pos h']
        have ho3:¬i=m1.length→¬i=m2.length→zbp c m1 m2 i k= -1:=fun h h'=>by unfold zbp;rw[if_neg h,if_neg h',hg1,hg2]
        (repeat' (first|(with_reducible first|refine zj (fun _=>?_) (fun _=>?_)|refine zi (fun _=>?_) (fun _=>?_)|refine zl (Zr m1 hnd1 _) (by first|rfl|(simp -dsimp [hi2,hi0,hlt2,hgk,hwk,hg1,hg2,dG,zc];done)) ?_|refine zx (Zr m1 hnd1 _) rfl (by first|rfl|(simp -dsimp [hi2,hi0,hlt2,hgk,hwk,hg1,hg2,dG,zc];done)) (by first|rfl|(simp -dsimp [hi2,hi0,hlt2,hgk,hwk,hg1,hg2,dG,zc];done)) ?_|refine zl (Zr m2 hnd2 _) (by first|rfl|(simp -dsimp [hi2,hi0,hlt2,hgk,hwk,hg1,hg2,dG,zc];done)) ?_|refine zx (Zr m2 hnd2 _) rfl (by first|rfl|(simp -dsimp [hi2,hi0,hlt2,hgk,hwk,hg1,hg2,dG,zc];done)) (by first|rfl|(simp -dsimp [hi2,hi0,hlt2,hgk,hwk,hg1,hg2,dG,zc];done)) ?_)|((with_reducible apply zc6 [] (f:=261));(case hc=>simp -dsimp [hi2,hi0,hlt2,hgk,hwk,hg1,hg2,dG,zc];first|exact ⟨rfl,rfl⟩|exact ⟨rfl,rfl,rfl⟩);(case hf=>exact func261);(case hA=>simp -dsimp [hi2,hi0,hlt2,hgk,hwk,hg1,hg2,dG,zc]<;>with_reducible rfl);(case hok=>simp -dsimp [hi2,hi0,hlt2,hgk,hwk,hg1,hg2,dG,zc]);(case hY=>simp -dsimp [hi2,hi0,hlt2,hgk,hwk,hg1,hg2,dG,zc]<;>with_reducible rfl);(case hO=>simp -dsimp [hi2,hi0,hlt2,hgk,hwk,hg1,hg2,dG,zc]<;>with_reducible rfl);(case hn=>kernel_rfl);(case hb=>rfl);(case hN=>exact ntmps261);(case hrs=>exact results261);(case hl=>exact Nat.le_of_ble_eq_true (by kernel_rfl));intro hok w0 S0)|((with_reducible apply zc6 [] (f:=335));(case hc=>simp -dsimp [hi2,hi0,hlt2,hgk,hwk,hg1,hg2,dG,zc];first|exact ⟨rfl,rfl⟩|exact ⟨rfl,rfl,rfl⟩);(case hf=>exact func335);(case hA=>simp -dsimp [hi2,hi0,hlt2,hgk,hwk,hg1,hg2,dG,zc]<;>with_reducible rfl);(case hok=>simp -dsimp [hi2,hi0,hlt2,hgk,hwk,hg1,hg2,dG,zc]);(case hY=>simp -dsimp [hi2,hi0,hlt2,hgk,hwk,hg1,hg2,dG,zc]<;>with_reducible rfl);(case hO=>simp -dsimp [hi2,hi0,hlt2,hgk,hwk,hg1,hg2,dG,zc]<;>with_reducible rfl);(case hn=>kernel_rfl);(case hb=>rfl);(case hN=>exact ntmps335);(case hrs=>exact results335);(case hl=>exact Nat.le_of_ble_eq_true (by kernel_rfl));intro hok w0 S0)|(with_reducible first|refine zk zb (by kernel_rfl) ?_|exact za rfl)|(simp -dsimp [hi2,hi0,hlt2,hgk,hwk,hg1,hg2,dG,zc])));(all_goals try with_reducible refine za ?_)
        ·refine ⟨(ss,_),⟨hso,hmem⟩,rfl,?_⟩
         rw[hcs,hcs2,ho1 (by omega),if_pos (by decide)]
         simp [zd]
        ·refine ⟨(ss,_),⟨hso,hmem⟩,rfl,?_⟩
         rw[hcs,hcs2,ho2 (by omega) (by omega),if_pos (by decide)]
         simp [zd]
        ·refine ⟨(ss,_),⟨hso,hmem⟩,rfl,?_⟩
         rw[hcs,hcs2,ho3 (by omega) (by omega),if_pos (by decide)]
         simp [zd]
       |some y=>
        have ho1:i=m1.length→zbp c m1 m2 i k= -1:=fun h=>by unfold zbp;rw[if_pos h]
        have ho2:¬i=m1.length→i=m2.length→zbp c m1 m2 i k=1:=fun h h'=>by unfold zbp;rw[if_neg h,if_pos h']
        have ho3:¬i=m1.length→¬i=m2.length→zbp c m1 m2 i k=c x y:=fun h h'=>by unfold zbp;rw[if_neg h,if_neg h',hg1,hg2]
        have hcc:=hc (k,x) (zmb hg1) (k,y) (zmb hg2)
        (repeat' (first|(with_reducible first|refine zj (fun _=>?_) (fun _=>?_)|refine zi (fun _=>?_) (fun _=>?_)|refine zl (Zr m1 hnd1 _) (by first|rfl|(simp -dsimp [hi2,hi0,hlt2,hgk,hwk,hg1,hg2,dG,zc];done)) ?_|refine zx (Zr m1 hnd1 _) rfl (by first|rfl|(simp -dsimp [hi2,hi0,hlt2,hgk,hwk,hg1,hg2,dG,zc];done)) (by first|rfl|(simp -dsimp [hi2,hi0,hlt2,hgk,hwk,hg1,hg2,dG,zc];done)) ?_|refine zl (Zr m2 hnd2 _) (by first|rfl|(simp -dsimp [hi2,hi0,hlt2,hgk,hwk,hg1,hg2,dG,zc];done)) ?_|refine zx (Zr m2 hnd2 _) rfl (by first|rfl|(simp -dsimp [hi2,hi0,hlt2,hgk,hwk,hg1,hg2,dG,zc];done)) (by first|rfl|(simp -dsimp [hi2,hi0,hlt2,hgk,hwk,hg1,hg2,dG,zc];done)) ?_)|((with_reducible apply zc6 [] (f:=261));(case hc=>simp -dsimp [hi2,hi0,hlt2,hgk,hwk,hg1,hg2,dG,zc];first|exact ⟨rfl,rfl⟩|exact ⟨rfl,rfl,rfl⟩);(case hf=>exact func261);(case hA=>simp -dsimp [hi2,hi0,hlt2,hgk,hwk,hg1,hg2,dG,zc]<;>with_reducible rfl);(case hok=>simp -dsimp [hi2,hi0,hlt2,hgk,hwk,hg1,hg2,dG,zc]);(case hY=>simp -dsimp [hi2,hi0,hlt2,hgk,hwk,hg1,hg2,dG,zc]<;>with_reducible rfl);(case hO=>simp -dsimp [hi2,hi0,hlt2,hgk,hwk,hg1,hg2,dG,zc]<;>with_reducible rfl);(case hn=>kernel_rfl);(case hb=>rfl);(case hN=>exact ntmps261);(case hrs=>exact results261);(case hl=>exact Nat.le_of_ble_eq_true (by kernel_rfl));intro hok w0 S0)|(with_reducible first|refine zl (hcc) (by first|rfl|(simp -dsimp [hi2,hi0,hlt2,hgk,hwk,hg1,hg2,dG,zc];done)) ?_|(refine zx (hcc) rfl ?_ ?_ ?_;iterate 2 exact by first|rfl|(simp -dsimp [hi2,hi0,hlt2,hgk,hwk,hg1,hg2,dG,zc];done)))|((with_reducible apply zc6 [] (f:=335));(case hc=>simp -dsimp [hi2,hi0,hlt2,hgk,hwk,hg1,hg2,dG,zc];first|exact ⟨rfl,rfl⟩|exact ⟨rfl,rfl,rfl⟩);(case hf=>exact func335);(case hA=>simp -dsimp [hi2,hi0,hlt2,hgk,hwk,hg1,hg2,dG,zc]<;>with_reducible rfl);(case hok=>simp -dsimp [hi2,hi0,hlt2,hgk,hwk,hg1,hg2,dG,zc]);(case hY=>simp -dsimp [hi2,hi0,hlt2,hgk,hwk,hg1,hg2,dG,zc]<;>with_reducible rfl);(case hO=>simp -dsimp [hi2,hi0,hlt2,hgk,hwk,hg1,hg2,dG,zc]<;>with_reducible rfl);(case hn=>kernel_rfl);(case hb=>rfl);(case hN=>exact ntmps335);(case hrs=>exact results335);(case hl=>exact Nat.le_of_ble_eq_true (by kernel_rfl));intro hok w0 S0)|(with_reducible first|refine zk zb (by kernel_rfl) ?_|exact za rfl)|(simp -dsimp [hi2,hi0,hlt2,hgk,hwk,hg1,hg2,dG,zc])));(all_goals try with_reducible refine za ?_)
        ·refine ⟨(ss,_),⟨hso,hmem⟩,rfl,?_⟩
         rw[hcs,hcs2,ho1 (by omega),if_pos (by decide)]
         simp [zd]
        ·refine ⟨(ss,_),⟨hso,hmem⟩,rfl,?_⟩
         rw[hcs,hcs2,ho2 (by omega) (by omega),if_pos (by decide)]
         simp [zd]
        ·rename_i hz
         refine ⟨(ss,_),⟨hso,hmem⟩,rfl,?_⟩
         rw[hcs,hcs2,ho3 (by omega) (by omega),if_pos (by simpa using hz)]
         simp [zd]
        ·rename_i hz
         have hz:c x y=0:=by simpa using hz
         refine hK3 _ (i+1) ?_ ⟨by omega,?_⟩ (by omega)
         ·simp only [hz]
          exact Weak.same (by simp -dsimp) (by simp -dsimp) (by first|rfl|(simp [zg,Av.ids,Ow.ids,Cl.ids,Go.Smd.keys];done))
         ·rw[hcs,hcs2,ho3 (by omega) (by omega),if_neg (by simpa using hz)]
     ·have e:i=ss.length:=by omega
      have hi2:¬((i:Int)<ss.length):=by omega
      (repeat' (first|(with_reducible first|refine zj (fun _=>?_) (fun _=>?_)|refine zi (fun _=>?_) (fun _=>?_)|refine zk zb (by kernel_rfl) ?_|exact za rfl)|(simp -dsimp [hi2])));(all_goals try with_reducible refine za ?_)
      refine ⟨(ss,_),⟨hso,hmem⟩,rfl,?_⟩
      rw[hcs,e,List.drop_length]
      simp [zd,zc8]
   |cons k rest=>
    simp only [List.length_cons] at hlen
    obtain ⟨R,hR⟩:∃R,R=ss++k::rest:=⟨_,rfl⟩
    have hRl:R.length=ss.length+(rest.length+1):=by rw[hR,List.length_append,List.length_cons]
    have hlt:(ss.length:Int)<R.length:=by omega
    have hl9:R.length≤9223372036854775807:=by omega
    simp only [←hR]
    have hwi:IntKind.wrap .i64 ((ss.length:Int)+1)=(ss.length:Int)+1:=by rw[zq]<;>omega
    (repeat' (first|(with_reducible first|refine zj (fun _=>?_) (fun _=>?_)|refine zi (fun _=>?_) (fun _=>?_)|refine zk zb (by kernel_rfl) ?_|exact za rfl)|(simp -dsimp [hlt,hl9])));(all_goals try with_reducible refine za ?_)
    refine zF (fun j:Nat=>⟨[(0,Z4),(2,.c (.d (dM m2))),(3,.c (.fn 1000000000)),(5,.c (.own 5 0)),(12,.c (.own 12 0)),(13,aV (.int .i64 ss.length)),(14,aV (.int .i64 j))],[(12,.cells [.gs 40 V] zem),(40,.arr V zeC (zd7 (zak k ss j++rest))),(5,.cells [.d (dM m1)] 329),(1000000000,.clo (.fn zl9) [.own 1000000001 0,.own 1000000002 0,.own 1000000003 0,.own 1000000004 0,.own 1000000005 0]),(1000000001,cI 0),(1000000002,cI m1.length),(1000000003,cI 0),(1000000004,cI m2.length),(1000000005,.cells [.d zeB] 194)]⟩)
     (fun j=>j≤ss.length∧∀q∈ss.drop j,blt k q=true) (fun j=>j) ss.length ?_ ⟨Nat.le_refl _,by simp⟩ ?_
    ·have e1:zak k ss ss.length++rest=R:=by rw[zjL,hR];simp
     simp only [e1]
     exact Weak.same (by simp -dsimp) (by simp -dsimp) (by first|rfl|(simp [zg,Av.ids,Ow.ids,Cl.ids,Go.Smd.keys];done))
    ·rintro j ⟨hj,hall⟩ K2 hK2
     have hRj:(zak k ss j++rest).length=R.length:=by rw[List.length_append,zad,hRl];omega
     cases j with
     |zero=>
      (repeat' (first|(with_reducible first|refine zj (fun _=>?_) (fun _=>?_)|refine zi (fun _=>?_) (fun _=>?_)|refine zk zb (by kernel_rfl) ?_|exact za rfl)|(simp -dsimp [hwi])));(all_goals try with_reducible refine za ?_)
      refine hK _ (zak k ss 0,rest) ?_ ⟨zcR hso (by simp) hall,(zfq k ss rest 0).trans hpm,by dsimp only;rw[zad];omega⟩ (by simp)
      simp only [zad]
      exact Weak.same (by simp -dsimp) (by simp -dsimp) (by first|rfl|(simp [zg,Av.ids,Ow.ids,Cl.ids,Go.Smd.keys];done))
     |succ p=>
      obtain ⟨s,hs⟩:∃s,ss[p]? =some s:=⟨ss[p],List.getElem?_eq_getElem (by omega)⟩
      obtain ⟨R2,hR2⟩:∃R2,R2=zak k ss (p+1)++rest:=⟨_,rfl⟩
      have hR2l:R2.length=R.length:=by rw[hR2];exact hRj
      have hpl:=zad k ss (p+1)
      have g1:R2[p+1]? =some k:=by rw[hR2,List.getElem?_append_left (by omega)];exact zif k hj
      have g2:R2[p]? =some s:=by rw[hR2,List.getElem?_append_left (by omega)];exact zig k hs
      have hb1:p+1<R2.length:=by omega
      have hb2:p<R2.length:=by omega
      have hw:IntKind.wrap .i64 (p:Int)=(p:Int):=by rw[zq]<;>omega
      have g1':R2[p+1]=k:=by rw[List.getElem?_eq_getElem hb1] at g1;exact Option.some.inj g1
      have g2':R2[p]=s:=by rw[List.getElem?_eq_getElem hb2] at g2;exact Option.some.inj g2
      have ht1:((p:Int)+1).toNat=p+1:=by omega
      have hp0:(0:Int)<(p:Int)+1:=by omega
      have hp1:(0:Int)≤(p:Int)+1:=by omega
      simp only [←hR2]
      (repeat' (first|(with_reducible first|refine zj (fun _=>?_) (fun _=>?_)|refine zi (fun _=>?_) (fun _=>?_)|refine zk zb (by kernel_rfl) ?_|exact za rfl)|(simp -dsimp [hw,ht1,hp0,hp1,hb1,hb2,g1',g2',hl9,zc,hwi])));(all_goals try with_reducible refine za ?_)
      ·rename_i hks
       refine hK2 _ p ?_ ⟨by omega,fun q hq=>?_⟩ (by omega)
       ·simp only [←zma hR2 hs]
        exact Weak.same (by simp -dsimp) (by simp -dsimp) (by first|rfl|(simp [zg,Av.ids,Ow.ids,Cl.ids,Go.Smd.keys];done))
       ·rw[List.drop_eq_getElem_cons (show p<ss.length by omega)] at hq
        rcases List.mem_cons.1 hq with rfl|hq
        ·rw[List.getElem?_eq_getElem (show p<ss.length by omega)] at hs
         cases hs;exact hks
        ·exact hall q hq
      ·rename_i hks
       have hsk:blt s k=true:=by
        rcases zeX k s with h|h|h
        ·rw[h] at hks;cases hks
        ·subst h
         exact absurd ((List.nodup_append.1 hnd2').2.2 k (List.mem_of_getElem? hs) k (List.mem_cons_self ..)) (by simp)
        ·exact h
       refine hK _ (zak k ss (p+1),rest) ?_ ⟨zcR hso (zih hso hs hsk) hall,(zfq k ss rest (p+1)).trans hpm,by dsimp only;rw[zad];omega⟩ (by simp)
       simp only [zad,←hR2]
       exact Weak.same (by simp -dsimp) (by simp -dsimp) (by first|rfl|(simp [zg,Av.ids,Ow.ids,Cl.ids,Go.Smd.keys];done)))
@[simp] theorem zwE:ZP prog 382= [none]:=by kernel_rfl
@[simp] theorem zxJ:prog.lay 382=some (1,false):=by kernel_rfl
theorem zrq (c:Tree→Tree→Int)(m1 m2:List (ByteArray×Tree))(hnd1:(m1.map (·.1)).Nodup)(hnd2:(m2.map (·.1)).Nodup)(hl:m1.length+m2.length≤4000000000000)(hne:¬(m1.length=0∧m2.length=0))
  (hc:∀x∈m1,∀y∈m2,ACalls prog zbm [Z4,.c (.d (dV x.2)),.c (.d (dV y.2))] (fun r=>r=aV (.int .i64 (c x.2 y.2)))):
  AProc prog 366 [Z4,.c (.d (dM m1)),.c (.d (dM m2)),.c (.fn 1000000000)]
   [(1000000000,.clo (.fn zl9) [.own 1000000001 0,.own 1000000002 0,.own 1000000003 0,.own 1000000004 0,.own 1000000005 0]),(1000000001,cI 0),(1000000002,cI m1.length),(1000000003,cI 0),(1000000004,cI m2.length),(1000000005,.cells [.d zeB] 194)]
   (fun r own'=>∃x:List ByteArray×Bool,zbB m1 m2 x.1∧r=aV (.bool x.2)∧own'= [(1000000003,cI (zc8 c m1 m2 0 x.1))]):=
 (zrp c m1 m2 hnd1 hnd2 hl hne hc).drop fun r own' ⟨x,hq,hr,h1⟩=>⟨_,⟨x,hq,hr,rfl⟩,by
  intro p hp
  simp only [List.mem_cons,List.not_mem_nil,or_false] at hp
  subst hp
  exact h1,by rfl,by rw[hr];rfl⟩
theorem zfV (c:Tree→Tree→Int)(m1 m2:List (ByteArray×Tree))(hnd1:(m1.map (·.1)).Nodup)(hnd2:(m2.map (·.1)).Nodup)(hl:m1.length+m2.length≤4000000000000)
  (hc:∀x∈m1,∀y∈m2,ACalls prog zbm [Z4,.c (.d (dV x.2)),.c (.d (dV y.2))] (fun r=>r=aV (.int .i64 (c x.2 y.2)))):
  ACalls prog 251 [Z4,.c (.d (dM m1)),.c (.d (dM m2))] (fun r=>∃ss,zbB m1 m2 ss∧r=aV (.int .i64 (zc8 c m1 m2 0 ss))):=by
 by_cases hne:m1.length=0∧m2.length=0
 ·obtain ⟨e1,e2⟩:=hne
  have e1:=List.eq_nil_of_length_eq_zero e1
  have e2:=List.eq_nil_of_length_eq_zero e2
  subst e1;subst e2
  refine zf [] func251 (by kernel_rfl) rfl ntmps251 results251 (Nat.le_of_ble_eq_true (by kernel_rfl)) ?_;intro hok w0 S0
  (repeat' (first|(with_reducible first|refine zj (fun _=>?_) (fun _=>?_)|refine zi (fun _=>?_) (fun _=>?_)|refine zl (zcD []) (by first|rfl|(simp -dsimp;done)) ?_|refine zl (zcD []) (by first|rfl|(simp -dsimp;done)) ?_|refine zk zb (by kernel_rfl) ?_|exact za rfl)|(simp -dsimp)));(all_goals try with_reducible refine za ?_)
  exact ⟨[],⟨List.Pairwise.nil,by simp⟩,rfl⟩
 ·refine zf [] func251 (by kernel_rfl) rfl ntmps251 results251 (Nat.le_of_ble_eq_true (by kernel_rfl)) ?_;intro hok w0 S0
  (repeat' (first|(with_reducible first|refine zj (fun _=>?_) (fun _=>?_)|refine zi (fun _=>?_) (fun _=>?_)|refine zl (zcD m1) (by first|rfl|(simp -dsimp [Zx];done)) ?_|refine zl (zcD m2) (by first|rfl|(simp -dsimp [Zx];done)) ?_)|((with_reducible apply zc6 [] (f:=260));(case hc=>simp -dsimp [Zx];first|exact ⟨rfl,rfl⟩|exact ⟨rfl,rfl,rfl⟩);(case hf=>exact func260);(case hA=>simp -dsimp [Zx]<;>with_reducible rfl);(case hok=>simp -dsimp [Zx]);(case hY=>simp -dsimp [Zx]<;>with_reducible rfl);(case hO=>simp -dsimp [Zx]<;>with_reducible rfl);(case hn=>kernel_rfl);(case hb=>rfl);(case hN=>exact ntmps260);(case hrs=>exact results260);(case hl=>exact Nat.le_of_ble_eq_true (by kernel_rfl));intro hok w0 S0)|((with_reducible apply zc6 [] (f:=362));(case hc=>simp -dsimp [Zx];first|exact ⟨rfl,rfl⟩|exact ⟨rfl,rfl,rfl⟩);(case hf=>exact func362);(case hA=>simp -dsimp [Zx]<;>with_reducible rfl);(case hok=>simp -dsimp [Zx]);(case hY=>simp -dsimp [Zx]<;>with_reducible rfl);(case hO=>simp -dsimp [Zx]<;>with_reducible rfl);(case hn=>kernel_rfl);(case hb=>rfl);(case hN=>exact ntmps362);(case hrs=>exact results362);(case hl=>exact Nat.le_of_ble_eq_true (by kernel_rfl));intro hok w0 S0)|((with_reducible apply zc6 [] (f:=364));(case hc=>simp -dsimp [Zx];first|exact ⟨rfl,rfl⟩|exact ⟨rfl,rfl,rfl⟩);(case hf=>exact func364);(case hA=>simp -dsimp [Zx]<;>with_reducible rfl);(case hok=>simp -dsimp [Zx]);(case hY=>simp -dsimp [Zx]<;>with_reducible rfl);(case hO=>simp -dsimp [Zx]<;>with_reducible rfl);(case hn=>kernel_rfl);(case hb=>rfl);(case hN=>exact ntmps364);(case hrs=>exact results364);(case hl=>exact Nat.le_of_ble_eq_true (by kernel_rfl));intro hok w0 S0)|((with_reducible apply zl4 (ρ:=[(1000000000,3000000028),(1000000001,3000000010),(1000000002,3000000008),(1000000003,3000000007),(1000000004,3000000009),(1000000005,3000000003)]) 7 (zrq c m1 m2 hnd1 hnd2 hl hne hc));(case hc=>simp -dsimp [Zx]<;>first|exact ⟨rfl,rfl,rfl⟩|exact ⟨rfl,rfl⟩|done);(case hx=>simp -dsimp [Zx]<;>with_reducible rfl);(case ho=>simp -dsimp [Zx]);(case hh=>simp -dsimp [Zx]);(case hb=>intro x hx;simp -dsimp [Zx]);intro _ _)|(with_reducible first|refine zk zb (by kernel_rfl) ?_|exact za rfl)|(simp -dsimp [Zx])));(all_goals try with_reducible refine za ?_)
  all_goals first|(exfalso;apply hne;simp_all;done)|skip
  all_goals (rename_i x hx;exact ⟨x.1,hx,rfl⟩)
theorem zeD:∀{m:List (ByteArray×Tree)} {k:ByteArray} {v:Tree},(m.map (·.1)).Nodup→(k,v)∈m→zai m k=some v
 | [],_,_,_,h=>by cases h
 |p::m,k,v,hnd,h=>by
  simp only [List.map_cons,List.nodup_cons] at hnd
  unfold zai
  rcases List.mem_cons.1 h with rfl|h
  ·simp
  ·have hne:¬p.1=k:=fun e=>hnd.1 (e▸List.mem_map_of_mem h)
   rw[List.find?_cons_of_neg (by simpa using hne)]
   exact zeD hnd.2 h
end Go.Smd
end
