/- Part 28. -/
import Derived.Test.YtdgnolbdcmgfoaaGreatQD27
set_option linter.unusedVariables false
set_option linter.unusedSimpArgs false
set_option maxRecDepth 100000
set_option maxHeartbeats 8000000
section
namespace Go.Smd
open Go.RowKit Go.Proofs Go.Proofs.Tryz
abbrev ndD (x:LE×D):List D:=leD x.1++ [x.2]
abbrev ndA (x:LE×D):Av:=.agg (cls (ndD x))
abbrev zvB (L:List (LE×D)):D:=.sl 233 (L.map ndD)
theorem zmo (x:LE×D):∃n0 n1 n2 n3 n4,ndD x= [n0,n1,n2,n3,n4]∧ndA x= .agg [.d n0,.d n1,.d n2,.d n3,.d n4]:=by
 obtain ⟨e,d⟩:=x
 cases e<;>exact ⟨_,_,_,_,_,rfl,rfl⟩
theorem zpK (x:LE×D)(q:LE)(hp:ZR x.1)(hq:ZR q):ACalls prog 228 [ndA x,leA q] (fun r=>r=aI (ZM x.1 q)):=by
 have h:=zct x.1 q hp hq
 have four:∀e:LE,∃e0 e1 e2 e3,leD e= [e0,e1,e2,e3]∧leA e= .agg [.d e0,.d e1,.d e2,.d e3]:=fun e=>by cases e<;>exact ⟨_,_,_,_,rfl,rfl⟩
 obtain ⟨p0,p1,p2,p3,hpd,hp'⟩:=four x.1
 obtain ⟨q0,q1,q2,q3,_,hq'⟩:=four q
 have hn:ndA x= .agg [.d p0,.d p1,.d p2,.d p3,.d x.2]:=by show Av.agg (cls (leD x.1++ [x.2]))=_;rw[hpd];rfl
 rw[hp',hq'] at h
 rw[hn,hq']
 refine zf [] func228 (by kernel_rfl) rfl ntmps228 results228 (Nat.le_of_ble_eq_true (by kernel_rfl)) ?_;intro hok w0 S0
 clear hok
 (repeat' (first|(with_reducible first|refine zj (fun _=>?_) (fun _=>?_)|refine zi (fun _=>?_) (fun _=>?_)|refine zl (h) (by first|rfl|(simp -dsimp;done)) ?_|refine zk zb (by kernel_rfl) ?_|exact za rfl)|(simp -dsimp)));(all_goals try with_reducible refine za ?_)
theorem znD (g:FuncId)(L:List (LE×D))(e:LE)(p:Nat)(fd:Bool)(hl:L.length*40≤140737488351232)(hg:∀x∈L,ACalls prog g [ndA x,leA e] (fun r=>r=aI (ZM x.1 e)))(hB:Bound (L.map (·.1)) e p)(hf:fd=true↔znt (L.map (·.1)) e p):
  ACalls prog 203 [.c (.d (zvB L)),leA e,.c (.d (.v (.func (.func g) #[] #[])))] (fun r=>r= .tup [(false,[.d (dI p)]),(false,[.d (dB fd)])]):=by
 obtain ⟨E,hE⟩:∃E,E=leD e:=⟨_,rfl⟩
 have hEl:E.length=4:=by rw[hE];cases e<;>rfl
 obtain ⟨e0,e1,e2,e3,he⟩:∃e0 e1 e2 e3,E= [e0,e1,e2,e3]:=by
  match E,hEl with
  | [a,b,c,d],_=>exact ⟨a,b,c,d,rfl⟩
 have eA:leA e= .agg [.d e0,.d e1,.d e2,.d e3]:=by
  show Av.agg (cls (leD e))=_
  rw[←hE,he];rfl
 rw[eA] at hg ⊢
 clear hE hEl
 have hBlo:∀(j:Nat) (h:j<L.length),j<p→ZM L[j].1 e<0:=fun j h k=>by have:=hB.lo j (by simpa using h) k;simpa using this
 have hBhi:∀(j:Nat) (h:j<L.length),p≤j→0≤ZM L[j].1 e:=fun j h k=>by have:=hB.hi j (by simpa using h) k;simpa using this
 have hBle:p≤L.length:=by simpa using hB.le
 have b1:L.length≤9223372036854775807:=by omega
 refine zf [(5,([6],[(0,[]),(1,[]),(2,[]),(3,[]),(4,[]),(5,[]),(6,[]),(7,[])])),(8,([],[(0,[]),(1,[]),(2,[]),(3,[]),(4,[]),(5,[]),(6,[]),(7,[]),(8,[]),(9,[]),(10,[]),(11,[]),(12,[]),(13,[]),(14,[]),(15,[])]))] func203 (by kernel_rfl) rfl ntmps203 results203 (Nat.le_of_ble_eq_true (by kernel_rfl)) ?_;intro hok w0 S0
 clear hok
 (repeat' (first|(with_reducible first|refine zj (fun _=>?_) (fun _=>?_)|refine zi (fun _=>?_) (fun _=>?_)|refine zk zb (by kernel_rfl) ?_|exact za rfl)|(simp -dsimp [b1])));(all_goals try with_reducible refine za ?_)
 refine zF (fun x:Nat×Nat=>⟨[(0,.c (.d (zvB L))),(2,.c (.d (.v (.func (.func g) #[] #[])))),(4,.c (.own 4 0)),(8,aI L.length),(9,aI x.1),(10,aI x.2)],[(4,.cells [.d e0,.d e1,.d e2,.d e3] 101)]⟩) (fun x=>x.1≤p∧p≤x.2∧x.2≤L.length) (fun x=>x.2 - x.1) (0,L.length) ?_ ⟨Nat.zero_le _,hBle,Nat.le_refl _⟩ ?_
 ·exact Weak.same (by simp -dsimp) (by simp -dsimp) (by first|rfl|(simp [zg,Av.ids,Ow.ids,Cl.ids,Go.Smd.keys];done))
 ·rintro ⟨lo,hi⟩ ⟨h1,h2,h3⟩ K hK
  dsimp only at h1 h2 h3 ⊢
  by_cases hlt:lo<hi
  ·obtain ⟨m,hm⟩:∃m,m=(lo+hi) / 2:=⟨_,rfl⟩
   have hml:m<L.length:=by omega
   obtain ⟨s,hs⟩:∃s:Nat,(lo:Int)+(hi:Int)=(s:Int):=⟨lo+hi,by omega⟩
   have c1:=zop (n:=s) (by omega)
   have c2:=zoq (n:=m) (by omega)
   have c3:∀{T:TypeId} {ox oy:Operand},ZH prog .shr T ox oy (.c (.d (.v (.int .u64 (s:Int))))) (.c (.d (.v (.int .u64 1))))=some (.c (.d (.v (.int .u64 (m:Int))))):=by
    have e:m=s / 2:=by omega
    intro T ox oy;rw[e];exact zuq (n:=s) (by omega)
   have hw:IntKind.wrap .i64 (s:Int)=(s:Int):=by rw[zq]<;>omega
   have hw2:IntKind.wrap .i64 ((m:Int)+1)=((m+1:Nat):Int):=by rw[zq]<;>omega
   have hx:=hg _ (List.getElem_mem hml)
   obtain ⟨n0,n1,n2,n3,n4,hn,hn'⟩:=zmo L[m]
   rw[hn'] at hx
   by_cases hc:ZM L[m].1 e<0
   ·(repeat' (first|(with_reducible first|refine zj (fun _=>?_) (fun _=>?_)|refine zi (fun _=>?_) (fun _=>?_)|refine zl (hx) (by first|rfl|(simp -dsimp [b1,hlt,hs,c1,c2,c3,hw,hw2,hml,hc,hn];done)) ?_|(refine zx (hx) rfl ?_ ?_ ?_;iterate 2 exact by first|rfl|(simp -dsimp [b1,hlt,hs,c1,c2,c3,hw,hw2,hml,hc,hn];done))|refine zk zb (by kernel_rfl) ?_|exact za rfl)|(simp -dsimp [b1,hlt,hs,c1,c2,c3,hw,hw2,hml,hc,hn])));(all_goals try with_reducible refine za ?_)
    refine hK _ (m+1,hi) ?_ ⟨?_,h2,h3⟩ (by dsimp only;omega)
    ·exact Weak.same (by simp -dsimp) (by simp -dsimp) (by first|rfl|(simp [zg,Av.ids,Ow.ids,Cl.ids,Go.Smd.keys];done))
    ·dsimp only
     apply Classical.byContradiction
     intro hn
     have:=hBhi m hml (by omega);omega
   ·(repeat' (first|(with_reducible first|refine zj (fun _=>?_) (fun _=>?_)|refine zi (fun _=>?_) (fun _=>?_)|refine zl (hx) (by first|rfl|(simp -dsimp [b1,hlt,hs,c1,c2,c3,hw,hw2,hml,hc,hn];done)) ?_|(refine zx (hx) rfl ?_ ?_ ?_;iterate 2 exact by first|rfl|(simp -dsimp [b1,hlt,hs,c1,c2,c3,hw,hw2,hml,hc,hn];done))|refine zk zb (by kernel_rfl) ?_|exact za rfl)|(simp -dsimp [b1,hlt,hs,c1,c2,c3,hw,hw2,hml,hc,hn])));(all_goals try with_reducible refine za ?_)
    refine hK _ (lo,m) ?_ ⟨h1,?_,by dsimp only;omega⟩ (by dsimp only;omega)
    ·exact Weak.same (by simp -dsimp) (by simp -dsimp) (by first|rfl|(simp [zg,Av.ids,Ow.ids,Cl.ids,Go.Smd.keys];done))
    ·dsimp only
     apply Classical.byContradiction
     intro hn
     exact hc (hBlo m hml (by omega))
  ·have e1:lo=p:=by omega
   have e2:hi=p:=by omega
   subst e1;subst e2
   by_cases hpl:hi<L.length
   ·have hx:=hg _ (List.getElem_mem hpl)
    obtain ⟨n0,n1,n2,n3,n4,hn,hn'⟩:=zmo L[hi]
    rw[hn'] at hx
    have hf2:fd=decide (ZM L[hi].1 e=0):=by
     rw[Bool.eq_iff_iff,hf,decide_eq_true_eq]
     exact ⟨fun ⟨x,h5,h6⟩=>(by rw[List.getElem?_map,List.getElem?_eq_getElem hpl] at h5;cases h5;exact h6),fun h5=>⟨_,by rw[List.getElem?_map,List.getElem?_eq_getElem hpl];rfl,h5⟩⟩
    by_cases hc:ZM L[hi].1 e=0
    ·(repeat' (first|(with_reducible first|refine zj (fun _=>?_) (fun _=>?_)|refine zi (fun _=>?_) (fun _=>?_)|refine zl (hx) (by first|rfl|(simp -dsimp [b1,hlt,hpl,hc,hn];done)) ?_|(refine zx (hx) rfl ?_ ?_ ?_;iterate 2 exact by first|rfl|(simp -dsimp [b1,hlt,hpl,hc,hn];done))|refine zk zb (by kernel_rfl) ?_|exact za rfl)|(simp -dsimp [b1,hlt,hpl,hc,hn])));(all_goals try with_reducible refine za ?_)
     rw[hf2];simp [hc]
    ·(repeat' (first|(with_reducible first|refine zj (fun _=>?_) (fun _=>?_)|refine zi (fun _=>?_) (fun _=>?_)|refine zl (hx) (by first|rfl|(simp -dsimp [b1,hlt,hpl,hc,hn];done)) ?_|(refine zx (hx) rfl ?_ ?_ ?_;iterate 2 exact by first|rfl|(simp -dsimp [b1,hlt,hpl,hc,hn];done))|refine zk zb (by kernel_rfl) ?_|exact za rfl)|(simp -dsimp [b1,hlt,hpl,hc,hn])));(all_goals try with_reducible refine za ?_)
     rw[hf2];simp [hc]
   ·have hf2:fd=false:=by
     rw[Bool.eq_false_iff]
     intro h5
     obtain ⟨x,h6,_⟩:=hf.1 h5
     have:=(List.getElem?_eq_some_iff.1 h6).1
     rw[List.length_map] at this
     omega
    (repeat' (first|(with_reducible first|refine zj (fun _=>?_) (fun _=>?_)|refine zi (fun _=>?_) (fun _=>?_)|refine zk zb (by kernel_rfl) ?_|exact za rfl)|(simp -dsimp [b1,hlt,hpl])));(all_goals try with_reducible refine za ?_)
    rw[hf2]
theorem znE (T:TypeId)(ver u:Nat)(R:List (List D))(L:List LE)(e:LE)(p:Nat)(hl:L.length*32≤140737488351232)(hL:∀x∈L,ZR x)(he:ZR e)(hB:Bound L e p)(hf:znt L e p):
  AProc prog 171 [.c (.own 1000000000 0),leA e] [(1000000000,.cells [.gs 1000000001 ver,.gs 1000000002 u] T),(1000000001,.arr ver 101 (L.map leD)),(1000000002,.arr u tSN R)]
   (fun r own'=>r= .tup []∧own'= [(3,.cells (cls (leD e)) 101),(1000000000,.cells [.gs 1000000001 ver,.gs 1000000002 u] T),(1000000001,.arr ver 101 (L.map leD)),(1000000002,.arr u tSN R)]):=by
 have hb:=zgA 207 L e p true hl (fun x hx=>zmi x e (hL x hx) he) hB (by simp [hf])
 have four:∀e:LE,∃e0 e1 e2 e3,leA e= .agg [.d e0,.d e1,.d e2,.d e3]:=fun e=>by cases e<;>exact ⟨_,_,_,_,rfl⟩
 obtain ⟨e0,e1,e2,e3,he'⟩:=four e
 have hcl:cls (leD e)= [.d e0,.d e1,.d e2,.d e3]:=Av.agg.inj he'
 rw[he'] at hb ⊢
 rw[hcl]
 refine zaj [] func171 (by kernel_rfl) rfl ntmps171 results171 (Nat.le_of_ble_eq_true (by kernel_rfl)) ?_;intro hok w0 S0
 (repeat' (first|(with_reducible first|refine zj (fun _=>?_) (fun _=>?_)|refine zi (fun _=>?_) (fun _=>?_)|refine zk zb (by kernel_rfl) ?_|exact za rfl)|(simp -dsimp)));(all_goals try with_reducible refine za ?_)
 refine zcB ?_
 refine zfo zb [0,1,2,3,4,5,6,7,8,9,10] [(7,?m7),(8,?m8),(9,?m9),(10,?m10),(11,?m11),(12,?m12),(6,?m6),(13,?m13),(14,?m14),(4,?m4),(5,?m5)] [(5,?o5)] ?hok ?hst ?hk
 case' hst=>refine ⟨?hv0,⟨_,rfl,?he0⟩,?hv1⟩
 case hv0=>
  iterate 5 refine ⟨.inr ⟨_,_,rfl,rfl,by simp -dsimp [ze]<;>with_reducible rfl⟩,?_⟩
  iterate 6 refine ⟨.inl (by kernel_rfl),?_⟩
  exact trivial
 case' he0=>(with_reducible apply zri (d:=12) (hR:=hb));(case hp=>rfl);(case hd=>rfl);(case hdk=>rfl);(case hc=>simp -dsimp [ze]<;>(first|done|rfl|exact ⟨rfl,rfl⟩|exact ⟨rfl,rfl,rfl⟩));(case ha=>simp -dsimp [ze]);(case hpl=>rfl);(case hoo=>rfl);(case hv=>simp -dsimp [ze]<;>with_reducible rfl)
 case hv1=>
  iterate 6 refine ⟨.inl (by kernel_rfl),?_⟩
  iterate 5 refine ⟨.inr ⟨_,_,rfl,rfl,by simp -dsimp [ze]<;>with_reducible rfl⟩,?_⟩
  exact trivial
 case hok=>kernel_rfl
 refine ⟨rfl,?_⟩
 (repeat' (first|(with_reducible first|refine zj (fun _=>?_) (fun _=>?_)|refine zi (fun _=>?_) (fun _=>?_)|refine zk zb (by kernel_rfl) ?_|exact za rfl)|(simp -dsimp)));(all_goals try with_reducible refine za ?_)
 exact ⟨rfl,rfl⟩
theorem znF (T:TypeId)(ver u:Nat)(R:List (List D))(L:List LE)(e:LE)(p:Nat)(hl:(L.length+1)*32≤140737488351232)(hL:∀x∈L,ZR x)(he:ZR e)(hB:Bound L e p)(hf:¬znt L e p):
  AProc prog 171 [.c (.own 1000000000 0),leA e] [(1000000000,.cells [.gs 1000000001 ver,.gs 1000000002 u] T),(1000000001,.arr ver 101 (L.map leD)),(1000000002,.arr u tSN R)]
   (fun r own'=>r= .tup []∧own'= [(3,.cells (cls (leD e)) 101),(23,.arr 0 101 [leD e]),(1000000000,.cells [.gs 1000000001 (ver+1),.gs 1000000002 u] T),(1000000001,.arr (ver+1) 101 ((zS p e L).map leD)),(1000000002,.arr u tSN R)]):=by
 have hb:=zgA 207 L e p false (by omega) (fun x hx=>zmi x e (hL x hx) he) hB (by simp [hf])
 have four:∀e:LE,∃e0 e1 e2 e3,leA e= .agg [.d e0,.d e1,.d e2,.d e3]:=fun e=>by cases e<;>exact ⟨_,_,_,_,rfl⟩
 obtain ⟨e0,e1,e2,e3,he'⟩:=four e
 have hcl:cls (leD e)= [.d e0,.d e1,.d e2,.d e3]:=Av.agg.inj he'
 have hld:leD e= [e0,e1,e2,e3]:=(List.map_inj_right (f:=Cl.d) (fun a b h=>Cl.d.inj h)).1 (show List.map Cl.d (leD e)=List.map Cl.d [e0,e1,e2,e3] from hcl)
 have hins:(zS p e L).map leD=zS p [e0,e1,e2,e3] (L.map leD):=by unfold zS;simp [List.map_take,List.map_drop,hld]
 have hi:=zrI ver 0 p (L.map leD) [e0,e1,e2,e3] (by simpa using hB.le) (by simpa using hl)
 rw[he'] at hb ⊢
 rw[hcl,hld,hins]
 refine zaj [] func171 (by kernel_rfl) rfl ntmps171 results171 (Nat.le_of_ble_eq_true (by kernel_rfl)) ?_;intro hok w0 S0
 (repeat' (first|(with_reducible first|refine zj (fun _=>?_) (fun _=>?_)|refine zi (fun _=>?_) (fun _=>?_)|refine zk zb (by kernel_rfl) ?_|exact za rfl)|(simp -dsimp)));(all_goals try with_reducible refine za ?_)
 refine zcB ?_
 refine zfo zb [0,1,2,3,4,5,6,7,8,9,10] [(7,?m7),(8,?m8),(9,?m9),(10,?m10),(11,?m11),(12,?m12),(6,?m6),(13,?m13),(14,?m14),(4,?m4),(5,?m5)] [(5,?o5)] ?hok ?hst ?hk
 case' hst=>refine ⟨?hv0,⟨_,rfl,?he0⟩,?hv1⟩
 case hv0=>
  iterate 5 refine ⟨.inr ⟨_,_,rfl,rfl,by simp -dsimp [ze]<;>with_reducible rfl⟩,?_⟩
  iterate 6 refine ⟨.inl (by kernel_rfl),?_⟩
  exact trivial
 case' he0=>(with_reducible apply zri (d:=12) (hR:=hb));(case hp=>rfl);(case hd=>rfl);(case hdk=>rfl);(case hc=>simp -dsimp [ze]<;>(first|done|rfl|exact ⟨rfl,rfl⟩|exact ⟨rfl,rfl,rfl⟩));(case ha=>simp -dsimp [ze]);(case hpl=>rfl);(case hoo=>rfl);(case hv=>simp -dsimp [ze]<;>with_reducible rfl)
 case hv1=>
  iterate 6 refine ⟨.inl (by kernel_rfl),?_⟩
  iterate 5 refine ⟨.inr ⟨_,_,rfl,rfl,by simp -dsimp [ze]<;>with_reducible rfl⟩,?_⟩
  exact trivial
 case hok=>kernel_rfl
 refine ⟨rfl,?_⟩
 (repeat' (first|(with_reducible first|refine zj (fun _=>?_) (fun _=>?_)|refine zi (fun _=>?_) (fun _=>?_)|refine zk zb (by kernel_rfl) ?_|exact za rfl)|(simp -dsimp)));(all_goals try with_reducible refine za ?_)
 refine zcB ?_
 refine Zz zb [[],[],[1],[1,2],[1,2,3],[],[],[6],[1,2,3,4,5,6,7],[0,1,2,3,4,5,6,7,8],[0,1,2,3,4,5,6,7,8,9],[0,1,2,3,4,5,6,7,8,9,10]] [0,1,2,3,4,5,6,7,8,9,10,11] [7,8,11] [([],⟨[(16,?m16u1),(17,?m17u1),(18,?m18u1),(19,?m19u1),(20,?m20u1),(21,?m21u1),(22,?m22u1),(23,?m23u1),(24,?m24u1),(25,?m25u1),(26,?m26u1)],?bu1,?o0u1⟩),([7],⟨[(16,?m16u1),(17,?m17u1),(18,?m18u1),(19,?m19u1),(20,?m20u1),(21,?m21u1),(22,?m22u1),(23,?m23u1),(24,?m24u1),(25,?m25u1),(26,?m26u1)],?bu1,?o1u1⟩),([7,8],⟨[(16,?m16u1),(17,?m17u1),(18,?m18u1),(19,?m19u1),(20,?m20u1),(21,?m21u1),(22,?m22u1),(23,?m23u1),(24,?m24u1),(25,?m25u1),(26,?m26u1)],?bu1,?o2u1⟩),([7,8,11],⟨[(16,?m16u1),(17,?m17u1),(18,?m18u1),(19,?m19u1),(20,?m20u1),(21,?m21u1),(22,?m22u1),(23,?m23u1),(24,?m24u1),(25,?m25u1),(26,?m26u1)],?bu1,?o3u1⟩)] ?hoku1 rfl rfl ?hbu1 ?hou1 ?hstu1 ?hku1
 case' hbu1=>rfl
 case' hou1=>rfl
 case' hstu1=>refine ⟨⟨?v0u1,?s0u1⟩,⟨⟨?v1u1,?s1u1⟩,⟨⟨?v2u1,?s2u1⟩,⟨⟨?v3u1,?s3u1⟩,True.intro⟩⟩⟩⟩
 case v0u1=>
  iterate 7 refine ⟨.inr ⟨_,rfl,zm (zY rfl rfl (by simp -dsimp [ze,zc]<;>with_reducible rfl))⟩,?_⟩
  iterate 5 refine ⟨.inl (by kernel_rfl),?_⟩
  exact True.intro
 case s0u1=>
  refine ⟨.inr ⟨_,_,rfl,rfl,zI (zaK (hdk:=rfl) (hW:=rfl) (hq:=by simp -dsimp [ze,zc]<;>(first|done|rfl|exact ⟨rfl,rfl⟩|exact ⟨rfl,rfl,rfl⟩)) (hoo:=rfl) (hv:=by simp -dsimp [ze,zc]<;>with_reducible rfl)) (by simp -dsimp [ze,zQ,zao,zc]<;>with_reducible rfl)⟩,?_⟩
  iterate 2 refine ⟨.inl (by kernel_rfl),?_⟩
  exact True.intro
 case v1u1=>
  iterate 6 refine ⟨.inr ⟨_,rfl,zm (zY rfl rfl (by simp -dsimp [ze,zc]<;>with_reducible rfl))⟩,?_⟩
  iterate 6 refine ⟨.inl (by kernel_rfl),?_⟩
  exact True.intro
 case' s1u1=>
  refine ⟨.inl (by kernel_rfl),?_⟩
  refine ⟨.inr ⟨_,_,rfl,rfl,zI (zrh (d:=24) (ρ:=[(1000000000,1000000001),(1000000001,23)]) (t:=8) (hR:=hi) (hp:=rfl) (hd:=rfl) (hdk:=rfl) (hc:=by simp -dsimp [ze,zc]<;>(first|done|rfl|exact ⟨rfl,rfl⟩|exact ⟨rfl,rfl,rfl⟩)) (hx:=by simp -dsimp [ze,zc]<;>with_reducible rfl) (ho:=by simp -dsimp [ze,zc]) (hh:=by simp -dsimp [ze,zc]) (hb:=by simp -dsimp [ze,zc]) (h1:=by simp -dsimp [ze,zc]<;>with_reducible rfl) (hv:=by simp -dsimp [ze,zc]<;>with_reducible rfl) (hfix:= ?hf8k1u1)) (by simp -dsimp [ze,zQ,zao,zc]<;>with_reducible rfl)⟩,?_⟩
  rotate_left
  refine ⟨.inl (by kernel_rfl),?_⟩
  exact True.intro
 case v2u1=>
  refine ⟨.inr ⟨_,rfl,zm (zY rfl rfl (by simp -dsimp [ze,zc]<;>with_reducible rfl))⟩,?_⟩
  iterate 8 refine ⟨.inl (by kernel_rfl),?_⟩
  iterate 2 refine ⟨.inr ⟨_,rfl,zm (zY rfl rfl (by simp -dsimp [ze,zc]<;>with_reducible rfl))⟩,?_⟩
  refine ⟨.inl (by kernel_rfl),?_⟩
  exact True.intro
 case s2u1=>
  iterate 2 refine ⟨.inl (by kernel_rfl),?_⟩
  refine ⟨.inr ⟨_,_,rfl,rfl,zI (zaK (hdk:=rfl) (hW:=rfl) (hq:=by simp -dsimp [ze,zc]<;>(first|done|rfl|exact ⟨rfl,rfl⟩|exact ⟨rfl,rfl,rfl⟩)) (hoo:=rfl) (hv:=by simp -dsimp [ze,zc]<;>with_reducible rfl)) (by simp -dsimp [ze,zQ,zao,zc]<;>with_reducible rfl)⟩,?_⟩
  exact True.intro
 case v3u1=>
  iterate 12 refine ⟨.inl (by kernel_rfl),?_⟩
  exact True.intro
 case s3u1=>
  iterate 3 refine ⟨.inl (by kernel_rfl),?_⟩
  exact True.intro
 case s1u1=>simp -dsimp [ze,zc]
 case hoku1=>kernel_rfl
 refine ⟨rfl,?_⟩
 (repeat' (first|(with_reducible first|refine zj (fun _=>?_) (fun _=>?_)|refine zi (fun _=>?_) (fun _=>?_)|refine zk zb (by kernel_rfl) ?_|exact za rfl)|(simp -dsimp)));(all_goals try with_reducible refine za ?_)
 exact ⟨rfl,rfl⟩
theorem znG (T:TypeId)(u:Nat)(R:List (List D)){ms:List EV}{e:EV}(hm:∀x∈ms,GoodE x)(hs:zaQ ms)(he:GoodE e)(hl:(ms.length+1)*32≤140737488351232):
  AProc prog 171 [.c (.own 1000000000 0),leA (zX e)] [(1000000000,.cells [.gs 1000000001 0,.gs 1000000002 u] T),(1000000001,.arr 0 101 (ms.map eD)),(1000000002,.arr u tSN R)]
   (fun r own'=>r= .tup []∧∃ver',zd own' 1000000000=some (.cells [.gs 1000000001 ver',.gs 1000000002 u] T)∧zd own' 1000000001=some (.arr ver' 101 ((zb8 e ms).map eD))∧zd own' 1000000002=some (.arr u tSN R)):=by
 have hB:=zld hs hm he
 have hA:=znA hm he
 have hF:∀x∈ms.map zX,ZR x:=fun x hx=>by obtain ⟨y,hy,rfl⟩:=List.mem_map.1 hx;exact (hm y hy).f.le
 have hmm:∀l:List EV,l.map eD=(l.map zX).map leD:=fun l=>by rw[List.map_map];rfl
 by_cases hf:zgC e ms
 ·have hi:=znE T 0 u R _ (zX e) _ (by simp;omega) hF he.f.le hB (hA.2 hf)
  rw[zfu _ _ hf,hmm]
  refine hi.mono fun r own' ⟨h1,h2⟩=>⟨h1,0,?_⟩
  subst h2
  exact ⟨rfl,rfl,rfl⟩
 ·have hi:=znF T 0 u R _ (zX e) _ (by simp;omega) hF he.f.le hB (fun h=>hf (hA.1 h))
  rw[ziC _ _ hf,hmm,hmm,ze0]
  refine hi.mono fun r own' ⟨h1,h2⟩=>⟨h1,1,?_⟩
  subst h2
  exact ⟨rfl,rfl,rfl⟩
def zcj (P:Program)(S:Nat→Prop)(w:World)(b:Nat)(F:List Nat)(t':ST)(w':World):Prop:=
 ∃(F':List Nat) (S':Nat→Prop),HasS P S' w' t' b F'∧(∀x,S x→S' x)∧(∀x,S' x→S x∨x∈F∨w.heap.size≤x)∧(∀x,S' x→x<w'.heap.size∧x∉F')∧(∀x∈F',x∈F∨w.heap.size≤x)∧GrownX (· ∈F) w w'
theorem zow {α:Type}{a b c i:Nat}{x y z o:α}(h:zd [(a,x),(b,y),(c,z)] i=some o):(i=a∧o=x)∨(i=b∧o=y)∨(i=c∧o=z):=by
 simp only [zd] at h
 split at h
 ·next e=>cases h;exact .inl ⟨e.symm,rfl⟩
 ·split at h
  ·next e=>cases h;exact .inr (.inl ⟨e.symm,rfl⟩)
  ·split at h
   ·next e=>cases h;exact .inr (.inr ⟨e.symm,rfl⟩)
   ·cases h
theorem zcE {v:Value}(h:∃A n c,v= .slice A n c)(x:Nat):bk v=some x↔v.ownBlock=some x:=by
 obtain ⟨A,n,c,rfl⟩:=h
 rfl
theorem zmp {S:Nat→Prop}{w:World}{ms:List EV}{ks:PK}{b:Nat}{F:List Nat}{N:Nat}(h:HasS prog S w (stP (.mk ms ks)) b F)(hS:∀x,S x→x<w.heap.size∧x∉F)(ok:OkS N (.mk ms ks))(hN:(N+1)*40≤140737488351232)
  (e:EV) (he:GoodE e) (u:Value) (hu:RepA prog S noB noH w (leA (zX e)) u):
  Calls prog 171 #[.pointer (some ⟨b,0,none⟩),u] w fun en w'=>en= .returned (.tuple #[])∧zcj prog S w b F (stP (.mk (zb8 e ms) ks)) w':=by
 simp only [stP,HasS] at h
 obtain ⟨vm,vc,T,bs,G,h1,h2,h3,h4,rfl,h5,h6,h7⟩:=h
 simp only [OkS] at ok
 have hbw:b<w.heap.size:=(Array.getElem?_eq_some_iff.1 h1).1
 have hc:=znG T 0 (zaN (skP ks) bs) ok.1 ok.2.1 he (by omega)
 obtain ⟨A0,c0,hvm⟩:=h2.slice
 obtain ⟨A1,c1,hvc⟩:=h3.slice
 have svm:∃A n c,vm= .slice A n c:=⟨_,_,_,hvm⟩
 have svc:∃A n c,vc= .slice A n c:=⟨_,_,_,hvc⟩
 clear hvm hvc
 rw[List.nodup_cons,List.nodup_append] at h5
 obtain ⟨n1,_,h5,n2⟩:=h5
 rw[List.nodup_append] at h5
 obtain ⟨_,nG,n3⟩:=h5
 simp only [List.mem_append,Option.mem_toList,not_or] at n1 n2 n3
 have dmc:∀x,vm.ownBlock=some x→vc.ownBlock≠some x:=fun x k1 k2=>n2 x k1 x (.inl k2) rfl
 have dmG:∀x,vm.ownBlock=some x→x∉G:=fun x k1 k2=>n2 x k1 x (.inr k2) rfl
 have dcG:∀x,vc.ownBlock=some x→x∉G:=fun x k1 k2=>n3 x k1 x k2 rfl
 have hGw:∀x∈G,x<w.heap.size:=HasK.blocks _ h4
 obtain ⟨own,hown⟩:∃own:List (Nat×Ow),own= [(1000000000,.cells [.gs 1000000001 0,.gs 1000000002 0] T),(1000000001,.arr 0 101 (ms.map eD)),(1000000002,.arr 0 tSN (zaN (skP ks) bs))]:=⟨_,rfl⟩
 obtain ⟨β,hβ⟩:∃β:Nat→Value,β=fun i=>if i=1000000000 then .pointer (some ⟨b,0,none⟩) else if i=1000000001 then vm else vc:=⟨_,rfl⟩
 have b0:β 1000000000= .pointer (some ⟨b,0,none⟩):=by rw[hβ];rfl
 have b1:β 1000000001=vm:=by rw[hβ];rfl
 have b2:β 1000000002=vc:=by rw[hβ];rfl
 obtain ⟨K,hK⟩:∃K:Nat→Prop,K=fun x=>x<w.heap.size∧x≠b∧vm.ownBlock≠some x∧vc.ownBlock≠some x:=⟨_,rfl⟩
 have hKi:∀x,K x↔x<w.heap.size∧x≠b∧vm.ownBlock≠some x∧vc.ownBlock≠some x:=fun x=>by rw[hK]
 have hKn:∀x,¬K x→x=b∨vm.ownBlock=some x∨vc.ownBlock=some x∨w.heap.size≤x:=fun x hx=>by
  rw[hKi] at hx
  by_cases k1:x=b
  ·exact .inl k1
  ·by_cases k2:vm.ownBlock=some x
   ·exact .inr (.inl k2)
   ·by_cases k3:vc.ownBlock=some x
    ·exact .inr (.inr (.inl k3))
    ·exact .inr (.inr (.inr (Nat.le_of_not_lt fun k4=>hx ⟨k4,k1,k2,k3⟩)))
 have hGK:∀x∈G,K x:=fun x hx=>(hKi x).2 ⟨hGw x hx,fun e=>n1.2.2 (e▸hx),fun e=>dmG x e hx,fun e=>dcG x e hx⟩
 have hSK:∀x,S x→K x:=fun x hx=>by
  have:=(hS x hx).2
  simp only [List.mem_cons,List.mem_append,Option.mem_toList,not_or] at this
  exact (hKi x).2 ⟨(hS x hx).1,this.1,this.2.1,this.2.2.1⟩
 have hocc:∀i o x,zd own i=some o→occ (β i) o x→x=b∧i=1000000000∨vm.ownBlock=some x∧i=1000000001∨vc.ownBlock=some x∧i=1000000002:=fun i o x hi ho=>by
  rw[hown] at hi
  rcases zow hi with ⟨rfl,rfl⟩|⟨rfl,rfl⟩|⟨rfl,rfl⟩
  ·rw[b0,ZN] at ho;simp [bk] at ho;exact .inl ⟨ho.symm,rfl⟩
  ·rw[b1,Z5,zcE svm] at ho;exact .inr (.inl ⟨ho,rfl⟩)
  ·rw[b2,Z5,zcE svc] at ho;exact .inr (.inr ⟨ho,rfl⟩)
 have hSd:∀x,S x→Sd w ⟨S,K,zd own,β⟩ β (zd own) w x:=fun x hx=>⟨.inl hx,(hS x hx).1,fun i o hi ho=>by
  obtain ⟨_,k1,k2,k3⟩:=(hKi x).1 (hSK x hx)
  rcases hocc i o x hi ho with h|h|h
  ·exact k1 h.1
  ·exact k2 h.1
  ·exact k3 h.1⟩
 have s:Sim prog 0 w ⟨S,K,zd own,β⟩ β ⟨[],own⟩ zhG w:=by
  refine ⟨KExt.refl _ _,fun x hx=>((hKi x).1 hx).1,fun i o0 h0=>⟨?_,fun o ho=>?_⟩,fun i j oi oj x hi hj ki kj=>?_,fun i o x hi ki=>?_,fun i o hi=>?_,fun t=>trivial,rfl,fun d hd=>by simp [zhG] at hd⟩
  ·have h0:zd own i=some o0:=h0
   rw[hown] at h0
   unfold zed
   rcases zow h0 with ⟨rfl,_⟩|⟨rfl,_⟩|⟨rfl,_⟩<;>omega
  ·have ho:zd own i=some o:=ho
   have h0:zd own i=some o0:=h0
   rw[h0] at ho;cases ho
   rw[hown] at h0
   rcases zow h0 with ⟨rfl,rfl⟩|⟨rfl,rfl⟩|⟨rfl,rfl⟩
   ·exact rfl
   ·exact ⟨Nat.le_refl _,fun _=>rfl⟩
   ·exact ⟨Nat.le_refl _,fun _=>rfl⟩
  ·rcases hocc i oi x hi ki with ⟨p1,q1⟩|⟨p1,q1⟩|⟨p1,q1⟩<;>rcases hocc j oj x hj kj with ⟨p2,q2⟩|⟨p2,q2⟩|⟨p2,q2⟩<;>first|(rw[q1,q2];done)|exfalso
   ·subst p1;exact n1.1 p2
   ·subst p1;exact n1.2.1 p2
   ·subst p2;exact n1.1 p1
   ·exact dmc x p1 p2
   ·subst p2;exact n1.2.1 p1
   ·exact dmc x p2 p1
  ·have hn:¬K x∧x<w.heap.size:=by
    rcases hocc i o x hi ki with ⟨p1,_⟩|⟨p1,_⟩|⟨p1,_⟩
    ·exact ⟨fun hk=>((hKi x).1 hk).2.1 p1,by rw[p1];exact hbw⟩
    ·exact ⟨fun hk=>((hKi x).1 hk).2.2.1 p1,h2.row_lt p1⟩
    ·exact ⟨fun hk=>((hKi x).1 hk).2.2.2 p1,h3.row_lt p1⟩
   exact hn
  ·have hi:zd own i=some o:=hi
   have hi':=hi
   rw[hown] at hi
   have q1:zd own 1000000001=some (.arr 0 101 (ms.map eD)):=by rw[hown];rfl
   have q2:zd own 1000000002=some (.arr 0 tSN (zaN (skP ks) bs)):=by rw[hown];rfl
   rcases zow hi with ⟨rfl,rfl⟩|⟨rfl,rfl⟩|⟨rfl,rfl⟩
   ·refine ⟨b,[vm,vc],b0,h1,.cons ⟨0,_,_,q1,Nat.le_refl _,fun _=>b1.symm,?_⟩ (.cons ⟨0,_,_,q2,Nat.le_refl _,fun _=>b2.symm,?_⟩ .nil)⟩
    ·obtain ⟨A,n,c,rfl⟩:=svm;rfl
    ·obtain ⟨A,n,c,rfl⟩:=svc;rfl
   ·rw[b1]
    exact ⟨(h2.any fun _ _=>trivial).frame (zr _) (fun _ _=>rfl) (fun _ _=>rfl) (fun _ h=>h) hSd,h6.1,h6.2⟩
   ·rw[b2]
    exact ⟨(h3.any fun _ _=>trivial).frame (zr _) (fun _ _=>rfl) (fun _ _=>rfl) (fun _ h=>h) hSd,h7.1,h7.2⟩
 have hu':RepA prog (Sd w ⟨S,K,zd own,β⟩ β (zd own) w) β (zd own) w (leA (zX e)) u:=by
  obtain ⟨us,hq,ha⟩:=hu
  refine ⟨us,hq,ha.imp fun x y hx k=>?_⟩
  obtain ⟨d,_,rfl⟩:=List.mem_map.1 hx
  exact RepD.mono (show RepD _ w S d y from k) hSd
 have hz0:RepA prog (Sd w ⟨S,K,zd own,β⟩ β (zd own) w) β (zd own) w (.c (.own 1000000000 0)) (.pointer (some ⟨b,0,none⟩)):=⟨_,_,b,by rw[hown];rfl,b0,rfl⟩
 rw[hown] at s hu' hz0
 refine (hc.2 w ⟨S,K,zd own,β⟩ β [_,u] (by rw[hown];exact s) (.cons (by rw[hown];exact hz0) (.cons (by rw[hown];exact hu') .nil))).mono ?_
 rintro en w' ⟨v,r,β',own',rfl,⟨rfl,ver',g0,g1,g2⟩,s',hv⟩
 have hv2:v= .tuple #[]:=by obtain ⟨us,hq,ha⟩:=hv;cases ha.inv0;exact hq
 refine ⟨by rw[hv2],?_⟩
 have k0:β' 1000000000= .pointer (some ⟨b,0,none⟩):=by
  have:=(s'.kept 1000000000 (.cells [.gs 1000000001 0,.gs 1000000002 0] T) (by show zd own _=_;rw[hown];rfl)).2 _ g0
  rw[←b0];exact this
 have k2:β' 1000000002=vc:=by
  have:=((s'.kept 1000000002 (.arr 0 tSN (zaN (skP ks) bs)) (by show zd own _=_;rw[hown];rfl)).2 _ g2).2 rfl
  rw[←b2];exact this
 obtain ⟨b',us,e0,hh,ha⟩:=s'.own 1000000000 _ g0
 rw[k0] at e0
 cases e0
 obtain ⟨m1,us1,rfl,⟨_,_,_,l1,_,l2,_⟩,ha⟩:=ha.inv
 obtain ⟨m2,us2,rfl,⟨_,_,_,l3,_,l4,_⟩,ha⟩:=ha.inv
 cases ha.inv0
 have l1:=g1.symm.trans l1;cases l1
 have l3:=g2.symm.trans l3;cases l3
 have l2:=l2 rfl
 have l4:=(l4 rfl).trans k2
 subst l2;subst l4
 obtain ⟨r1,r2,r3⟩:=s'.own 1000000001 _ g1
 obtain ⟨r4,r5,r6⟩:=s'.own 1000000002 _ g2
 rw[k2] at r4
 have svm':∃A n c,β' 1000000001= .slice A n c:=by obtain ⟨A,c,hs⟩:=r1.slice;exact ⟨_,_,_,hs⟩
 have newm:∀x,(β' 1000000001).ownBlock=some x→¬K x∧x<w'.heap.size:=fun x hx=>s'.new 1000000001 _ x g1 (Z5.2 ((zcE svm' x).2 hx))
 have hsz:=s'.ext.size
 have blk:∀x,K x→w'.heap[x]? =w.heap[x]? :=fun x hx=>s'.ext.block x hx
 have hS':∀x,S x→Sd w ⟨S,K,zd own,β⟩ β' (zd own') w' x:=fun x hx=>⟨.inl hx,Nat.lt_of_lt_of_le (hS x hx).1 hsz,fun i o hi ho=>(s'.new i o x hi ho).1 (hSK x hx)⟩
 refine ⟨b::((β' 1000000001).ownBlock.toList++(m2.ownBlock.toList++G)),Sd w ⟨S,K,zd own,β⟩ β' (zd own') w',?_,hS',fun x hx=>?_,fun x hx=>⟨hx.2.1,?_⟩,fun x hx=>?_,s'.ext.os,s'.ext.tape,s'.ext.output,hsz,fun x h1' h2'=>?_⟩
 ·simp only [stP,HasS]
  refine ⟨β' 1000000001,m2,T,bs,G,hh,r1.any fun _ h=>h,r4.any fun _ h=>h,HasK.frame _ h4 (fun x hx=>blk x (hSK x hx)) (fun x hx=>blk x (hGK x hx)) hS',rfl,?_,⟨r2,r3⟩,⟨r5,r6⟩⟩
  rw[List.nodup_cons,List.nodup_append]
  simp only [List.mem_append,Option.mem_toList,not_or]
  refine ⟨⟨fun hx=>?_,n1.2.1,n1.2.2⟩,?_,List.nodup_append.2 ⟨by cases m2.ownBlock<;>simp,nG,fun x hx y hy e=>dcG x (by simpa using hx) (e▸hy)⟩,fun x hx y hy e=>?_⟩
  ·have hi:=s'.inj 1000000000 1000000001 _ _ b g0 g1 (ZN.2 (by rw[k0];rfl)) (Z5.2 ((zcE svm' b).2 hx))
   exact absurd hi (by decide)
  ·cases (β' 1000000001).ownBlock<;>simp
  ·subst e
   rcases hy with hy|hy
   ·have hi:=s'.inj 1000000001 1000000002 _ _ x g1 g2 (Z5.2 ((zcE svm' x).2 hx)) (Z5.2 ((by rw[k2];exact (zcE svc x).2 hy)))
    exact absurd hi (by decide)
   ·exact (newm x hx).1 (hGK x hy)
 ·rcases hx.1 with h|h
  ·exact .inl h
  ·rcases hKn x h with h|h|h|h
   ·exact .inr (.inl (by simp [h]))
   ·exact .inr (.inl (by simp [h]))
   ·exact .inr (.inl (by simp [h]))
   ·exact .inr (.inr h)
 ·simp only [List.mem_cons,List.mem_append,Option.mem_toList,not_or]
  refine ⟨fun e=>?_,fun e=>?_,fun e=>?_,fun e=>?_⟩
  ·exact hx.2.2 1000000000 _ g0 (ZN.2 (by rw[k0,e];rfl))
  ·exact hx.2.2 1000000001 _ g1 (Z5.2 ((zcE svm' x).2 e))
  ·exact hx.2.2 1000000002 _ g2 (Z5.2 (by rw[k2];exact (zcE svc x).2 e))
  ·rcases hx.1 with h|h
   ·exact (hS x h).2 (by simp [e])
   ·exact h (hGK x e)
 ·simp only [List.mem_cons,List.mem_append,Option.mem_toList] at hx ⊢
  rcases hx with h|h|h|h
  ·exact .inl (.inl h)
  ·rcases hKn x (newm x h).1 with h|h|h|h
   ·exact .inl (.inl h)
   ·exact .inl (.inr (.inl h))
   ·exact .inl (.inr (.inr (.inl h)))
   ·exact .inr h
  ·exact .inl (.inr (.inr (.inl h)))
  ·exact .inl (.inr (.inr (.inr h)))
 ·simp only [List.mem_cons,List.mem_append,Option.mem_toList,not_or] at h2'
  exact blk x ((hKi x).2 ⟨h1',h2'.1,h2'.2.1,h2'.2.2.1⟩)
end Go.Smd
end
