/- Part 41 of the proof: Kk Le Lf Lh Av. -/
import Derived.Test.YtdgnolbdcmgfoaaGreatQR39
import Derived.Test.YtdgnolbdcmgfoaaGreatQR40
import Derived.Test.YtdgnolbdcmgfoaaGreatQR26
set_option linter.unusedVariables false
set_option linter.unusedSimpArgs false
set_option maxRecDepth 100000
set_option maxHeartbeats 8000000
section
namespace Go.Smd
open Go.RowKit Go.Proofs Go.Proofs.Tryz
noncomputable abbrev zgJ (v:Value)(p:List EV)(ver:Nat)(R:List (List D)):List (Nat×Ow):=
 [(1000000002,.cells [.gs 1000000003 ver] zda),(1000000003,.arr ver tSP R),(1000000004,zfd),(1000000005,.clo (.pin v tPE (p.map eD)) [])]
noncomputable abbrev znu (n:Nat)(p:List EV)(ver:Nat)(R:List (List D)):List (Nat×Ow):=
 [(1000000002,.cells [.gs 1000000003 ver] zda),(1000000003,.arr ver tSP R),(1000000004,zfd),(1000000005,.arr n tPE (p.map eD))]
def CIter (s:PS):Prop:=∀(v:Value) (ver:Nat) (R:List (List D)) (p:List EV),IsPin v p.length→(∀x∈p,GoodE x)→(p.length+s.depth)*168≤140737488351232→(R.length+s.size)*24≤140737488351232→
 AProc prog 195 [.c (.d (.pt (psD s))),.c (.d (.v v)),.c (.fn 1000000004)] (zgJ v p ver R) (fun r own'=>r= .tup []∧own'=zgJ v p (ver+s.size) (R++zcY p s.list))
theorem zjv {f:FuncId}{X:D}{p:List EV}{ver ver':Nat}{R R':List (List D)}(n:Nat)(h:∀v,IsPin v p.length→AProc prog f [.c (.d X),.c (.d (.v v)),.c (.fn 1000000004)] (zgJ v p ver R) (fun r own'=>r= .tup []∧own'=zgJ v p ver' R')):
  AProc prog f [.c (.d X),.c (.gs 1000000005 n),.c (.fn 1000000004)] (znu n p ver R) (fun r own'=>r= .tup []∧own'=znu n p ver' R'):=by
 refine AProc.unpin (q:=1000000005) (n:=n) (E:=tPE) (xs:=p.map eD) rfl (by simp [Av.ids,Cl.ids]) ?_ fun v hv=>?_
 ·intro i o hi
  have:=Zv hi
  simp only [List.mem_cons,List.not_mem_nil,or_false,Prod.mk.injEq] at this
  rcases this with ⟨_,rfl⟩|⟨_,rfl⟩|⟨_,rfl⟩|⟨_,rfl⟩<;>simp [Ow.ids,Cl.ids]
 ·have h1:=h v (by simpa using hv)
  refine h1.mono ?_
  rintro r own' ⟨rfl,rfl⟩
  refine ⟨znu n p ver' R',rfl,rfl,⟨rfl,rfl⟩,rfl,fun i o hi=>?_,by simp [Av.ids]⟩
  have:=Zv hi
  simp only [List.mem_cons,List.not_mem_nil,or_false,Prod.mk.injEq] at this
  rcases this with ⟨_,rfl⟩|⟨_,rfl⟩|⟨_,rfl⟩|⟨_,rfl⟩<;>simp [Ow.ids,Cl.ids]
theorem CIter.unpin {s:PS}(h:CIter s)(n ver:Nat)(R:List (List D))(p:List EV)(hp:∀x∈p,GoodE x)(hd:(p.length+s.depth)*168≤140737488351232)(hb:(R.length+s.size)*24≤140737488351232):
  AProc prog 195 [.c (.d (.pt (psD s))),.c (.gs 1000000005 n),.c (.fn 1000000004)] (znu n p ver R) (fun r own'=>r= .tup []∧own'=znu n p (ver+s.size) (R++zcY p s.list)):=
 zjv n fun v hv=>h v ver R p hv hp hd hb
theorem zxa {P:Program}{N:Nat}{w0:World}{S0:Env}{Q:Exit→St→Prop}{sc:Sch}{k:List Fr}{n i:Nat}{l:List Oper}{tl tl':List (Nat×Av)}{hl hl':List (Nat×Ow)}{t:Tg (P,N,w0,S0,Q,sc,k,l,n,tl,hl)}{t':Tg (P,N,w0,S0,Q,sc,k,l,n,tl',hl')}(hw:Weak P N w0 S0 ⟨tl,hl⟩ ⟨tl',hl'⟩)(h:exD P N w0 S0 Q sc k i l n tl' hl' t' none):exD P N w0 S0 Q sc k i l n tl hl t none:=by
 refine (show AWp P N w0 S0 (.region i l.toArray true) (KQ P N w0 S0 Q k) ⟨tl,hl⟩ from AWp.weak hw ?_)
 exact (show AWp P N w0 S0 (.region i l.toArray true) (KQ P N w0 S0 Q k) ⟨tl',hl'⟩ from h)
abbrev FK:FuncId:=227
theorem zvm (k:PK)(v:Value)(ver:Nat)(R:List (List D))(p:List EV)(hv:IsPin v p.length)(hp:∀x∈p,GoodE x)(hb:k.es.length≤4000000000000)(hd:(p.length+1+k.depth)*168≤140737488351232)(hR:(R.length+k.size)*24≤140737488351232)
  (gk:∀x∈k.es,GoodE x) (h:∀s∈k.ss,CIter s):
  AProc prog FK [.c (.d (.pt [.sl tSN (pkD k)])),.c (.d (.v v)),.c (.fn 1000000004)] (zgJ v p ver R) (fun r own'=>r= .tup []∧own'=zgJ v p (ver+k.size) (R++zcY p k.list)):=by
 have hl:=zdu k
 have hl2:=PK.ss_length k
 have b1:(pkD k).length≤9223372036854775807:=by omega
 unfold zgJ
 refine zdg [] func227 (by kernel_rfl) rfl ntmps227 results227 (Nat.le_of_ble_eq_true (by kernel_rfl)) ?_;intro hok w0 S0 hpin
 (repeat' (first|(with_reducible first|refine zj (fun _=>?_) (fun _=>?_)|refine zi (fun _=>?_) (fun _=>?_)|refine zk zb (by kernel_rfl) ?_|exact za rfl)|(simp -dsimp [b1])));(all_goals try with_reducible refine za ?_)
 refine zC (fun i:Nat=>⟨[(1,.c (.d (.v v))),(2,.c (.fn 1000000004)),(12,.c (.d (.sl tSN (pkD k)))),(13,aI (pkD k).length),(14,aI i)],zgJ v p (ver+(k.take i).size) (R++zcY p (k.take i).list)⟩) (fun i=>i≤(pkD k).length) (fun i=>(pkD k).length - i) 0 ?_ (Nat.zero_le _) ?_
 ·simp only [PK.take_zero,PK.size,PK.list,zcY,List.map_nil,List.append_nil,Nat.add_zero]
  exact Weak.same (by simp -dsimp) (by simp -dsimp) (by first|rfl|(simp [zf,Av.ids,Ow.ids,Cl.ids,Go.Smd.keys];done))
 ·rintro i hi K hK
  by_cases hlt:i<(pkD k).length
  ·have hw:IntKind.wrap .i64 ((i:Int)+1)=((i+1:Nat):Int):=by rw[zn]<;>omega
   have h1:i<k.es.length:=by omega
   have h2:i<k.ss.length:=by omega
   obtain ⟨e0,e1,e2,e3,A,B,hn,he,_,hps,_,_⟩:=zdw k i hlt h1 h2
   have hc:=h _ (List.getElem_mem h2)
   have hdp:=PK.depth_le _ (List.getElem_mem h2)
   have hsz:=PK.take_size h1 h2
   have hls:=PK.take_list h1 h2
   have hle:=PK.take_le k (i+1)
   have gp:∀x∈p++ [k.es[i]],GoodE x:=fun x hx=>by
    rcases List.mem_append.1 hx with h|h
    ·exact hp x h
    ·rw[List.mem_singleton.1 h];exact gk _ (List.getElem_mem h1)
   have hm1:(p.map eD).length=p.length:=by simp
   have hpe:(p++ [k.es[i]]).map eD=p.map eD++ [[e0,e1,e2,e3]]:=by rw[List.map_append,←he];rfl
   have hpl:(p++ [k.es[i]]).length=p.length+1:=by simp
   have hRl:(R++zcY p (k.take i).list).length=R.length+(k.take i).size:=by rw[List.length_append,List.length_map,PK.list_length]
   have hnx:R++zcY p (k.take (i+1)).list=R++zcY p (k.take i).list++zcY (p++ [k.es[i]]) (k.ss[i]).list:=by
    rw[hls,zcY,List.map_append,←zqT,List.append_assoc]
   have hvr:ver+(k.take (i+1)).size=ver+(k.take i).size+(k.ss[i]).size:=by omega
   have bd:((p++ [k.es[i]]).length+(k.ss[i]).depth)*168≤140737488351232:=by rw[hpl];omega
   have bR:((R++zcY p (k.take i).list).length+(k.ss[i]).size)*24≤140737488351232:=by rw[hRl];omega
   have bm:(p.length+1)*32≤140737488351232:=by omega
   obtain ⟨R1,hR1⟩:∃R1,R1=R++zcY p (k.take i).list:=⟨_,rfl⟩
   obtain ⟨R2,hR2⟩:∃R2,R2=R++zcY p (k.take (i+1)).list:=⟨_,rfl⟩
   obtain ⟨V1,hV1⟩:∃V1,V1=ver+(k.take i).size:=⟨_,rfl⟩
   obtain ⟨V2,hV2⟩:∃V2,V2=ver+(k.take (i+1)).size:=⟨_,rfl⟩
   have cP:=fun (v':Value) (hv':IsPin v' (p++ [k.es[i]]).length)=>hc v' V1 R1 (p++ [k.es[i]]) hv' gp bd (by rw[hR1];exact bR)
   have cU:=hc.unpin 1 V1 R1 (p++ [k.es[i]]) gp bd (by rw[hR1];exact bR)
   unfold zgJ at cP
   unfold znu at cU
   have e1:R1++zcY (p++ [k.es[i]]) (k.ss[i]).list=R2:=by rw[hR1,hR2,hnx]
   have e2:V1+(k.ss[i]).size=V2:=by omega
   rw[e1,e2,hpe,hps] at cU
   rw[e1,e2,hpe,hps] at cP
   have lf:prog.lay tFP=some (1,false):=by kernel_rfl
   have ct:zaa prog tFP= [none]:=by kernel_rfl
   clear hls hsz hle hdp hRl hnx hvr bd bR hc h gp e1 e2 hp hd hR
   unfold zgJ
   rw[←hR1,←hV1]
   rcases id hv with ⟨rfl,h0⟩|⟨g,cap,rfl,hcap⟩
   ·have hp0:p= []:=List.eq_nil_of_length_eq_zero h0
    subst hp0
    clear cP
    simp only [List.map_nil,List.nil_append] at cU ⊢
    (repeat' (first|(with_reducible first|refine zj (fun _=>?_) (fun _=>?_)|refine zi (fun _=>?_) (fun _=>?_)|refine zk zb (by kernel_rfl) ?_|exact za rfl)|(simp -dsimp [b1,hlt,hw,hn])));(all_goals try with_reducible refine za ?_)
    refine zcT ?_
    refine ZI zb [[],[0],[],[],[3],[2,3,4],[],[0,1,2,3,4,5,6]] [0,1,2,3,4,5,6,7] [4,5,7] [([],⟨[(20,?m20u1),(21,?m21u1),(22,?m22u1),(23,?m23u1),(24,?m24u1),(25,?m25u1),(26,?m26u1),(27,?m27u1)],?bu1,?o0u1⟩),([4],⟨[(20,?m20u1),(21,?m21u1),(22,?m22u1),(23,?m23u1),(24,?m24u1),(25,?m25u1),(26,?m26u1),(27,?m27u1)],?bu1,?o1u1⟩),([4,5],⟨[(20,?m20u1),(21,?m21u1),(22,?m22u1),(23,?m23u1),(24,?m24u1),(25,?m25u1),(26,?m26u1),(27,?m27u1)],?bu1,?o2u1⟩),([4,5,7],⟨[(20,?m20u1),(21,?m21u1),(22,?m22u1),(23,?m23u1),(24,?m24u1),(25,?m25u1),(26,?m26u1),(27,?m27u1)],?bu1,?o3u1⟩)] ?hoku1 rfl rfl ?hbu1 ?hou1 ?hstu1 ?hku1
    case' hbu1=>rfl
    case' hou1=>rfl
    case' hstu1=>refine ⟨⟨?v0u1,?s0u1⟩,⟨⟨?v1u1,?s1u1⟩,⟨⟨?v2u1,?s2u1⟩,⟨⟨?v3u1,?s3u1⟩,True.intro⟩⟩⟩⟩
    case v0u1=>
     iterate 4 refine ⟨.inr ⟨_,rfl,zm (z9 rfl rfl (by simp -dsimp [zg,zc,bm,lf,ct]<;>with_reducible rfl))⟩,?_⟩
     iterate 2 refine ⟨.inl (by kernel_rfl),?_⟩
     refine ⟨.inr ⟨_,rfl,zm (z9 rfl rfl (by simp -dsimp [zg,zc,bm,lf,ct]<;>with_reducible rfl))⟩,?_⟩
     refine ⟨.inl (by kernel_rfl),?_⟩
     exact True.intro
    case s0u1=>
     refine ⟨.inr ⟨_,_,rfl,rfl,zN (zaX (hdk:=rfl) (hW:=rfl) (hq:=by simp -dsimp [zg,zc,bm,lf,ct]<;>(first|done|rfl|exact ⟨rfl,rfl⟩|exact ⟨rfl,rfl,rfl⟩)) (hoo:=rfl) (hv:=by simp -dsimp [zg,zc,bm,lf,ct]<;>with_reducible rfl)) (by simp -dsimp [zg,zW,zay,zc,bm,lf,ct]<;>with_reducible rfl)⟩,?_⟩
     iterate 2 refine ⟨.inl (by kernel_rfl),?_⟩
     exact True.intro
    case v1u1=>
     iterate 3 refine ⟨.inr ⟨_,rfl,zm (z9 rfl rfl (by simp -dsimp [zg,zc,bm,lf,ct]<;>with_reducible rfl))⟩,?_⟩
     iterate 3 refine ⟨.inl (by kernel_rfl),?_⟩
     refine ⟨.inr ⟨_,rfl,zm (z9 rfl rfl (by simp -dsimp [zg,zc,bm,lf,ct]<;>with_reducible rfl))⟩,?_⟩
     refine ⟨.inl (by kernel_rfl),?_⟩
     exact True.intro
    case s1u1=>
     refine ⟨.inl (by kernel_rfl),?_⟩
     refine ⟨.inr ⟨_,_,rfl,rfl,zN (zaX (hdk:=rfl) (hW:=rfl) (hq:=by simp -dsimp [zg,zc,bm,lf,ct]<;>(first|done|rfl|exact ⟨rfl,rfl⟩|exact ⟨rfl,rfl,rfl⟩)) (hoo:=rfl) (hv:=by simp -dsimp [zg,zc,bm,lf,ct]<;>with_reducible rfl)) (by simp -dsimp [zg,zW,zay,zc,bm,lf,ct]<;>with_reducible rfl)⟩,?_⟩
     refine ⟨.inl (by kernel_rfl),?_⟩
     exact True.intro
    case v2u1=>
     iterate 2 refine ⟨.inr ⟨_,rfl,zm (z9 rfl rfl (by simp -dsimp [zg,zc,bm,lf,ct]<;>with_reducible rfl))⟩,?_⟩
     iterate 4 refine ⟨.inl (by kernel_rfl),?_⟩
     refine ⟨.inr ⟨_,rfl,zm (z9 rfl rfl (by simp -dsimp [zg,zc,bm,lf,ct]<;>with_reducible rfl))⟩,?_⟩
     refine ⟨.inl (by kernel_rfl),?_⟩
     exact True.intro
    case' s2u1=>
     iterate 2 refine ⟨.inl (by kernel_rfl),?_⟩
     refine ⟨.inr ⟨_,_,rfl,rfl,zN (zf5 (d:=27) (ρ:=[(1000000002,1000000002),(1000000003,1000000003),(1000000004,1000000004),(1000000005,25)]) (t:=7) (hR:=cU) (hp:=rfl) (hd:=rfl) (hdk:=rfl) (hc:=by simp -dsimp [zg,zc,bm,lf,ct]<;>(first|done|rfl|exact ⟨rfl,rfl⟩|exact ⟨rfl,rfl,rfl⟩)) (hx:=by simp -dsimp [zg,zc,bm,lf,ct]<;>with_reducible rfl) (ho:=by simp -dsimp [zg,zc,bm,lf,ct]) (hh:=by simp -dsimp [zg,zc,bm,lf,ct]) (hb:=by simp -dsimp [zg,zc,bm,lf,ct]) (h1:=by simp -dsimp [zg,zc,bm,lf,ct]<;>with_reducible rfl) (hv:=by simp -dsimp [zg,zc,bm,lf,ct]<;>with_reducible rfl) (hfix:= ?hf7k2u1)) (by simp -dsimp [zg,zW,zay,zc,bm,lf,ct]<;>with_reducible rfl)⟩,?_⟩
     rotate_left
     exact True.intro
    case v3u1=>
     iterate 8 refine ⟨.inl (by kernel_rfl),?_⟩
     exact True.intro
    case s3u1=>
     iterate 3 refine ⟨.inl (by kernel_rfl),?_⟩
     exact True.intro
    case s2u1=>simp -dsimp [zg,Av.ids,Cl.ids,zc,bm,lf,ct]
    case hoku1=>kernel_rfl
    refine ⟨rfl,?_⟩
    (repeat' (first|(with_reducible first|refine zj (fun _=>?_) (fun _=>?_)|refine zi (fun _=>?_) (fun _=>?_)|refine zk zb (by kernel_rfl) ?_|exact za rfl)|(simp -dsimp [hw])));(all_goals try with_reducible refine za ?_)
    refine hK _ (i+1) ?_ (by omega) (by omega)
    rw[←hR2,←hV2]
    unfold zgJ
    simp only [List.map_nil]
    exact Weak.same (by simp -dsimp) (by simp -dsimp) (by first|rfl|(simp [zf,Av.ids,Ow.ids,Cl.ids,Go.Smd.keys];done))
   ·have hm:=hm1
    have bcap:p.length+1≤9223372036854775807:=by omega
    by_cases hr:p.length+1≤cap
    ·have hroom:=hr
     have cV:=cP (.slice (some ⟨g,0,none⟩) (p.length+1) cap) (.inr ⟨g,cap,by rw[hpl],by rw[hpl];exact hr⟩)
     clear cU cP
     obtain ⟨X,hX⟩:∃X,X=p.map eD:=⟨_,rfl⟩
     rw[←hX] at hm cV hpin ⊢
     (repeat' (first|(with_reducible first|refine zj (fun _=>?_) (fun _=>?_)|refine zi (fun _=>?_) (fun _=>?_)|refine zk zb (by kernel_rfl) ?_|exact za rfl)|(simp -dsimp [b1,hlt,hw,hn])));(all_goals try with_reducible refine za ?_)
     refine ztl ?_
     refine ZI zb [[],[0],[],[],[3],[2,3,4],[],[0,1,2,3,4,5,6]] [0,1,2,3,4,5,6,7] [4,5,7] [([],⟨[(20,?m20u2),(21,?m21u2),(22,?m22u2),(23,?m23u2),(24,?m24u2),(25,?m25u2),(26,?m26u2),(27,?m27u2)],?bu2,?o0u2⟩),([4],⟨[(20,?m20u2),(21,?m21u2),(22,?m22u2),(23,?m23u2),(24,?m24u2),(25,?m25u2),(26,?m26u2),(27,?m27u2)],?bu2,?o1u2⟩),([4,5],⟨[(20,?m20u2),(21,?m21u2),(22,?m22u2),(23,?m23u2),(24,?m24u2),(25,?m25u2),(26,?m26u2),(27,?m27u2)],?bu2,?o2u2⟩),([4,5,7],⟨[(20,?m20u2),(21,?m21u2),(22,?m22u2),(23,?m23u2),(24,?m24u2),(25,?m25u2),(26,?m26u2),(27,?m27u2)],?bu2,?o3u2⟩)] ?hoku2 rfl rfl ?hbu2 ?hou2 ?hstu2 ?hku2
     case' hbu2=>rfl
     case' hou2=>rfl
     case' hstu2=>refine ⟨⟨?v0u2,?s0u2⟩,⟨⟨?v1u2,?s1u2⟩,⟨⟨?v2u2,?s2u2⟩,⟨⟨?v3u2,?s3u2⟩,True.intro⟩⟩⟩⟩
     case v0u2=>
      iterate 4 refine ⟨.inr ⟨_,rfl,zm (z9 rfl rfl (by simp -dsimp [zg,zc,bm,lf,ct]<;>with_reducible rfl))⟩,?_⟩
      iterate 2 refine ⟨.inl (by kernel_rfl),?_⟩
      refine ⟨.inr ⟨_,rfl,zm (z9 rfl rfl (by simp -dsimp [zg,zc,bm,lf,ct]<;>with_reducible rfl))⟩,?_⟩
      refine ⟨.inl (by kernel_rfl),?_⟩
      exact True.intro
     case s0u2=>
      refine ⟨.inr ⟨_,_,rfl,rfl,zN (zaX (hdk:=rfl) (hW:=rfl) (hq:=by simp -dsimp [zg,zc,bm,lf,ct]<;>(first|done|rfl|exact ⟨rfl,rfl⟩|exact ⟨rfl,rfl,rfl⟩)) (hoo:=rfl) (hv:=by simp -dsimp [zg,zc,bm,lf,ct]<;>with_reducible rfl)) (by simp -dsimp [zg,zW,zay,zc,bm,lf,ct]<;>with_reducible rfl)⟩,?_⟩
      iterate 2 refine ⟨.inl (by kernel_rfl),?_⟩
      exact True.intro
     case v1u2=>
      iterate 3 refine ⟨.inr ⟨_,rfl,zm (z9 rfl rfl (by simp -dsimp [zg,zc,bm,lf,ct]<;>with_reducible rfl))⟩,?_⟩
      iterate 3 refine ⟨.inl (by kernel_rfl),?_⟩
      refine ⟨.inr ⟨_,rfl,zm (z9 rfl rfl (by simp -dsimp [zg,zc,bm,lf,ct]<;>with_reducible rfl))⟩,?_⟩
      refine ⟨.inl (by kernel_rfl),?_⟩
      exact True.intro
     case' s1u2=>
      refine ⟨.inl (by kernel_rfl),?_⟩
      refine ⟨.inr ⟨_,_,rfl,rfl,zN (zno (n:=999) (q:=1000000005) ⟨by decide,by decide,by simp -dsimp [zg,zc,bm,lf,ct]⟩ (hop:=rfl) (hd:=rfl) (hdk:=rfl) ⟨by decide,by simp -dsimp [zg,zc,bm,lf,ct]⟩ (hT:=by kernel_rfl) (hE:=by kernel_rfl) (hn:=by first|rfl|kernel_rfl) (hx:=by simp -dsimp [zg,zc,bm,lf,ct]<;>(first|done|rfl|exact ⟨rfl,rfl⟩|exact ⟨rfl,rfl,rfl⟩|exact ⟨⟨rfl,rfl,rfl⟩,rfl,rfl⟩)) (hzv:=by simp -dsimp [zg,zc,bm,lf,ct]<;>(first|done|rfl|exact ⟨rfl,rfl⟩|exact ⟨rfl,rfl,rfl⟩|exact ⟨⟨rfl,rfl,rfl⟩,rfl,rfl⟩)) (hr:=by simp -dsimp [zg,zc,bm,lf,ct]<;>(first|done|rfl|exact ⟨rfl,rfl⟩|exact ⟨rfl,rfl,rfl⟩|exact ⟨⟨rfl,rfl,rfl⟩,rfl,rfl⟩)) (hq:=by first|rfl|(simp -dsimp [zg,zc,bm,lf,ct]<;>(first|done|rfl|exact ⟨rfl,rfl⟩|exact ⟨rfl,rfl,rfl⟩|exact ⟨⟨rfl,rfl,rfl⟩,rfl,rfl⟩))) (hm:=by first|assumption|rfl|simp;done) (hroom:=by first|assumption|omega) (hb:=by simp -dsimp [zg,zc,bm,lf,ct]<;>first|done|assumption|omega) (hfree:= ?hf5k1u2) (hfo:=by simp -dsimp [zg,Av.ids,Ow.ids,Cl.ids,zc,bm,lf,ct]) (ho:=by with_reducible rfl) (hv:=by simp -dsimp [zg,zc,bm,lf,ct]<;>with_reducible rfl)) (by simp -dsimp [zg,zW,zay,zbE,zc,bm,lf,ct]<;>with_reducible rfl)⟩,?_⟩
      rotate_left
      refine ⟨.inl (by kernel_rfl),?_⟩
      exact True.intro
     case v2u2=>
      iterate 2 refine ⟨.inr ⟨_,rfl,zm (z9 rfl rfl (by simp -dsimp [zg,zc,bm,lf,ct]<;>with_reducible rfl))⟩,?_⟩
      iterate 4 refine ⟨.inl (by kernel_rfl),?_⟩
      refine ⟨.inr ⟨_,rfl,zm (z9 rfl rfl (by simp -dsimp [zg,zc,bm,lf,ct]<;>with_reducible rfl))⟩,?_⟩
      refine ⟨.inl (by kernel_rfl),?_⟩
      exact True.intro
     case' s2u2=>
      iterate 2 refine ⟨.inl (by kernel_rfl),?_⟩
      refine ⟨.inr ⟨_,_,rfl,rfl,zN (zf5 (d:=27) (ρ:=[(1000000002,1000000002),(1000000003,1000000003),(1000000004,1000000004),(1000000005,25)]) (t:=7) (hR:=cV) (hp:=rfl) (hd:=rfl) (hdk:=rfl) (hc:=by simp -dsimp [zg,zc,bm,lf,ct]<;>(first|done|rfl|exact ⟨rfl,rfl⟩|exact ⟨rfl,rfl,rfl⟩)) (hx:=by simp -dsimp [zg,zc,bm,lf,ct]<;>with_reducible rfl) (ho:=by simp -dsimp [zg,zc,bm,lf,ct]) (hh:=by simp -dsimp [zg,zc,bm,lf,ct]) (hb:=by simp -dsimp [zg,zc,bm,lf,ct]) (h1:=by simp -dsimp [zg,zc,bm,lf,ct]<;>with_reducible rfl) (hv:=by simp -dsimp [zg,zc,bm,lf,ct]<;>with_reducible rfl) (hfix:= ?hf7k2u2)) (by simp -dsimp [zg,zW,zay,zc,bm,lf,ct]<;>with_reducible rfl)⟩,?_⟩
      rotate_left
      exact True.intro
     case v3u2=>
      iterate 8 refine ⟨.inl (by kernel_rfl),?_⟩
      exact True.intro
     case s3u2=>
      iterate 3 refine ⟨.inl (by kernel_rfl),?_⟩
      exact True.intro
     case s1u2=>simp -dsimp [zg,Av.ids,Ow.ids,Cl.ids,zc,bm,lf,ct]
     case s2u2=>simp -dsimp [zg,Av.ids,Cl.ids,zc,bm,lf,ct]
     case hoku2=>kernel_rfl
     refine ⟨rfl,_,Weak.pinPop (q:=25) (d:=1000000005) (hid:=by simp -dsimp [zg,zc,bm,lf,ct]<;>with_reducible rfl) (hm:=by assumption) (hd:=by simp -dsimp [zg,zc,bm,lf,ct]) (ht:=by simp -dsimp [zg,Av.ids,Ow.ids,Cl.ids,zc,bm,lf,ct]) (hqo:=by simp -dsimp [zg,Av.ids,Ow.ids,Cl.ids,zc,bm,lf,ct]) (hk:=fun o0 h=>hpin 1000000005 _ _ _ rfl o0 h),?_⟩
     (repeat' (first|(with_reducible first|refine zj (fun _=>?_) (fun _=>?_)|refine zi (fun _=>?_) (fun _=>?_)|refine zk zb (by kernel_rfl) ?_|exact za rfl)|(simp -dsimp [hw,St.del,St.new,zbE])));(all_goals try with_reducible refine za ?_)
     refine hK _ (i+1) ?_ (by omega) (by omega)
     rw[←hR2,←hV2]
     unfold zgJ
     rw[←hX]
     exact Weak.same (by simp -dsimp) (by simp -dsimp) (by first|rfl|(simp [zf,Av.ids,Ow.ids,Cl.ids,Go.Smd.keys];done))
    ·have hfull:∀g' cap',Value.slice (some ⟨g,0,none⟩) p.length cap= .slice (some ⟨g',0,none⟩) p.length cap'→cap'<p.length+1:=fun g' cap' h=>by injection h with _ _ h3;omega
     clear cP
     obtain ⟨X,hX⟩:∃X,X=p.map eD:=⟨_,rfl⟩
     rw[←hX] at hm cU hpin ⊢
     (repeat' (first|(with_reducible first|refine zj (fun _=>?_) (fun _=>?_)|refine zi (fun _=>?_) (fun _=>?_)|refine zk zb (by kernel_rfl) ?_|exact za rfl)|(simp -dsimp [b1,hlt,hw,hn])));(all_goals try with_reducible refine za ?_)
     refine zcT ?_
     refine ZI zb [[],[0],[],[],[3],[2,3,4],[],[0,1,2,3,4,5,6]] [0,1,2,3,4,5,6,7] [4,5,7] [([],⟨[(20,?m20u3),(21,?m21u3),(22,?m22u3),(23,?m23u3),(24,?m24u3),(25,?m25u3),(26,?m26u3),(27,?m27u3)],?bu3,?o0u3⟩),([4],⟨[(20,?m20u3),(21,?m21u3),(22,?m22u3),(23,?m23u3),(24,?m24u3),(25,?m25u3),(26,?m26u3),(27,?m27u3)],?bu3,?o1u3⟩),([4,5],⟨[(20,?m20u3),(21,?m21u3),(22,?m22u3),(23,?m23u3),(24,?m24u3),(25,?m25u3),(26,?m26u3),(27,?m27u3)],?bu3,?o2u3⟩),([4,5,7],⟨[(20,?m20u3),(21,?m21u3),(22,?m22u3),(23,?m23u3),(24,?m24u3),(25,?m25u3),(26,?m26u3),(27,?m27u3)],?bu3,?o3u3⟩)] ?hoku3 rfl rfl ?hbu3 ?hou3 ?hstu3 ?hku3
     case' hbu3=>rfl
     case' hou3=>rfl
     case' hstu3=>refine ⟨⟨?v0u3,?s0u3⟩,⟨⟨?v1u3,?s1u3⟩,⟨⟨?v2u3,?s2u3⟩,⟨⟨?v3u3,?s3u3⟩,True.intro⟩⟩⟩⟩
     case v0u3=>
      iterate 4 refine ⟨.inr ⟨_,rfl,zm (z9 rfl rfl (by simp -dsimp [zg,zc,bm,lf,ct]<;>with_reducible rfl))⟩,?_⟩
      iterate 2 refine ⟨.inl (by kernel_rfl),?_⟩
      refine ⟨.inr ⟨_,rfl,zm (z9 rfl rfl (by simp -dsimp [zg,zc,bm,lf,ct]<;>with_reducible rfl))⟩,?_⟩
      refine ⟨.inl (by kernel_rfl),?_⟩
      exact True.intro
     case s0u3=>
      refine ⟨.inr ⟨_,_,rfl,rfl,zN (zaX (hdk:=rfl) (hW:=rfl) (hq:=by simp -dsimp [zg,zc,bm,lf,ct]<;>(first|done|rfl|exact ⟨rfl,rfl⟩|exact ⟨rfl,rfl,rfl⟩)) (hoo:=rfl) (hv:=by simp -dsimp [zg,zc,bm,lf,ct]<;>with_reducible rfl)) (by simp -dsimp [zg,zW,zay,zc,bm,lf,ct]<;>with_reducible rfl)⟩,?_⟩
      iterate 2 refine ⟨.inl (by kernel_rfl),?_⟩
      exact True.intro
     case v1u3=>
      iterate 3 refine ⟨.inr ⟨_,rfl,zm (z9 rfl rfl (by simp -dsimp [zg,zc,bm,lf,ct]<;>with_reducible rfl))⟩,?_⟩
      iterate 3 refine ⟨.inl (by kernel_rfl),?_⟩
      refine ⟨.inr ⟨_,rfl,zm (z9 rfl rfl (by simp -dsimp [zg,zc,bm,lf,ct]<;>with_reducible rfl))⟩,?_⟩
      refine ⟨.inl (by kernel_rfl),?_⟩
      exact True.intro
     case' s1u3=>
      refine ⟨.inl (by kernel_rfl),?_⟩
      refine ⟨.inr ⟨_,_,rfl,rfl,zN (znp (n:=999) (q:=1000000005) ⟨by decide,by decide,by simp -dsimp [zg,zc,bm,lf,ct]⟩ (hop:=rfl) (hd:=rfl) (hdk:=rfl) ⟨by decide,by simp -dsimp [zg,zc,bm,lf,ct]⟩ (hT:=by kernel_rfl) (hE:=by kernel_rfl) (hn:=by first|rfl|kernel_rfl) (hx:=by simp -dsimp [zg,zc,bm,lf,ct]<;>(first|done|rfl|exact ⟨rfl,rfl⟩|exact ⟨rfl,rfl,rfl⟩|exact ⟨⟨rfl,rfl,rfl⟩,rfl,rfl⟩)) (hzv:=by simp -dsimp [zg,zc,bm,lf,ct]<;>(first|done|rfl|exact ⟨rfl,rfl⟩|exact ⟨rfl,rfl,rfl⟩|exact ⟨⟨rfl,rfl,rfl⟩,rfl,rfl⟩)) (hr:=by simp -dsimp [zg,zc,bm,lf,ct]<;>(first|done|rfl|exact ⟨rfl,rfl⟩|exact ⟨rfl,rfl,rfl⟩|exact ⟨⟨rfl,rfl,rfl⟩,rfl,rfl⟩)) (hq:=by first|rfl|(simp -dsimp [zg,zc,bm,lf,ct]<;>(first|done|rfl|exact ⟨rfl,rfl⟩|exact ⟨rfl,rfl,rfl⟩|exact ⟨⟨rfl,rfl,rfl⟩,rfl,rfl⟩))) (hm:=by first|assumption|rfl|simp;done) (hfull:=by first|assumption|omega) (hb:=by simp -dsimp [zg,zc,bm,lf,ct]<;>first|done|assumption|omega) (hfree:= ?hf5k1u3) (hfo:=by simp -dsimp [zg,Av.ids,Ow.ids,Cl.ids,zc,bm,lf,ct]) (ho:=by with_reducible rfl) (hv:=by simp -dsimp [zg,zc,bm,lf,ct]<;>with_reducible rfl)) (by simp -dsimp [zg,zW,zay,zbE,zc,bm,lf,ct]<;>with_reducible rfl)⟩,?_⟩
      rotate_left
      refine ⟨.inl (by kernel_rfl),?_⟩
      exact True.intro
     case v2u3=>
      iterate 2 refine ⟨.inr ⟨_,rfl,zm (z9 rfl rfl (by simp -dsimp [zg,zc,bm,lf,ct]<;>with_reducible rfl))⟩,?_⟩
      iterate 4 refine ⟨.inl (by kernel_rfl),?_⟩
      refine ⟨.inr ⟨_,rfl,zm (z9 rfl rfl (by simp -dsimp [zg,zc,bm,lf,ct]<;>with_reducible rfl))⟩,?_⟩
      refine ⟨.inl (by kernel_rfl),?_⟩
      exact True.intro
     case' s2u3=>
      iterate 2 refine ⟨.inl (by kernel_rfl),?_⟩
      refine ⟨.inr ⟨_,_,rfl,rfl,zN (zf5 (d:=27) (ρ:=[(1000000002,1000000002),(1000000003,1000000003),(1000000004,1000000004),(1000000005,25)]) (t:=7) (hR:=cU) (hp:=rfl) (hd:=rfl) (hdk:=rfl) (hc:=by simp -dsimp [zg,zc,bm,lf,ct]<;>(first|done|rfl|exact ⟨rfl,rfl⟩|exact ⟨rfl,rfl,rfl⟩)) (hx:=by simp -dsimp [zg,zc,bm,lf,ct]<;>with_reducible rfl) (ho:=by simp -dsimp [zg,zc,bm,lf,ct]) (hh:=by simp -dsimp [zg,zc,bm,lf,ct]) (hb:=by simp -dsimp [zg,zc,bm,lf,ct]) (h1:=by simp -dsimp [zg,zc,bm,lf,ct]<;>with_reducible rfl) (hv:=by simp -dsimp [zg,zc,bm,lf,ct]<;>with_reducible rfl) (hfix:= ?hf7k2u3)) (by simp -dsimp [zg,zW,zay,zc,bm,lf,ct]<;>with_reducible rfl)⟩,?_⟩
      rotate_left
      exact True.intro
     case v3u3=>
      iterate 8 refine ⟨.inl (by kernel_rfl),?_⟩
      exact True.intro
     case s3u3=>
      iterate 3 refine ⟨.inl (by kernel_rfl),?_⟩
      exact True.intro
     case s1u3=>simp -dsimp [zg,Av.ids,Ow.ids,Cl.ids,zc,bm,lf,ct]
     case s2u3=>simp -dsimp [zg,Av.ids,Cl.ids,zc,bm,lf,ct]
     case hoku3=>kernel_rfl
     refine ⟨rfl,?_⟩
     (repeat' (first|(with_reducible first|refine zj (fun _=>?_) (fun _=>?_)|refine zi (fun _=>?_) (fun _=>?_)|refine zk zb (by kernel_rfl) ?_|exact za rfl)|(simp -dsimp [hw])));(all_goals try with_reducible refine za ?_)
     refine hK _ (i+1) ?_ (by omega) (by omega)
     rw[←hR2,←hV2]
     unfold zgJ
     rw[←hX]
     exact Weak.same (by simp -dsimp) (by simp -dsimp) (by first|rfl|(simp [zf,Av.ids,Ow.ids,Cl.ids,Go.Smd.keys];done))
  ·have hi2:i=k.es.length:=by omega
   rw[PK.take_all (by omega)]
   (repeat' (first|(with_reducible first|refine zj (fun _=>?_) (fun _=>?_)|refine zi (fun _=>?_) (fun _=>?_)|refine zk zb (by kernel_rfl) ?_|exact za rfl)|(simp -dsimp [b1,hlt])));(all_goals try with_reducible refine za ?_)
   exact ⟨rfl,rfl⟩
theorem zfw:∀{x  y:List EV},(∀e∈x,GoodE e)→(∀e∈y,GoodE e)→(eqEs x y=true↔Zf x y=0)
 | [],[],_,_=>by simp [eqEs,Zf]
 | [],_::_,_,_=>by simp [eqEs,Zf]
 |_::_,[],_,_=>by simp [eqEs,Zf]
 |a::u,b::z,hx,hy=>by
  have ih:=zfw (x:=u) (y:=z) (fun e he=>hx e (by simp [he])) fun e he=>hy e (by simp [he])
  have h1:=znl (hx a (by simp)) (hy b (by simp))
  simp only [eqEs,Bool.and_eq_true,h1,ih,Zf]
  by_cases h0:zt a b=0
  ·rw[if_pos h0];exact ⟨fun h=>h.2,fun h=>⟨h0,h⟩⟩
  ·rw[if_neg h0]
   constructor
   ·exact fun h=>absurd h.1 h0
   ·intro h
    split at h
    ·exact absurd h h0
    ·split at h<;>omega
def zhi:List (List EV) →List (List EV)→Bool
 | [],[]=>true
 |x::a,y::b=>eqEs x y && zhi a b
 |_,_=>false
theorem zff:∀{a  b:List (List EV)},zhi a b=true↔a.length=b.length∧∀(i:Nat) (h:i<a.length) (h':i<b.length),eqEs a[i] b[i]=true
 | [],[]=>by simp [zhi]
 | [],_::_=>by simp [zhi]
 |_::_,[]=>by simp [zhi]
 |x::a,y::b=>by
  simp only [zhi,Bool.and_eq_true,zff (a:=a) (b:=b),List.length_cons]
  constructor
  ·rintro ⟨h1,h2,h3⟩
   refine ⟨by omega,fun i hi hj=>?_⟩
   cases i with
   |zero=>exact h1
   |succ i=>exact h3 i (by omega) (by omega)
  ·rintro ⟨h1,h2⟩
   exact ⟨h2 0 (by omega) (by omega),by omega,fun i hi hj=>h2 (i+1) (by omega) (by omega)⟩
theorem zqV {a b:List (List EV)}(ha:∀w∈a,∀e∈w,GoodE e)(hb:∀w∈b,∀e∈w,GoodE e):zhi a b=true↔All2 (fun x y=>Zf x y=0) a b:=by
 rw[zff]
 constructor
 ·rintro ⟨h1,h2⟩
  refine All2.of h1 fun i x y hx hy=>?_
  have k1:=(List.getElem?_eq_some_iff.1 hx)
  have k2:=(List.getElem?_eq_some_iff.1 hy)
  obtain ⟨i1,rfl⟩:=k1
  obtain ⟨i2,rfl⟩:=k2
  exact (zfw (ha _ (List.getElem_mem i1)) (hb _ (List.getElem_mem i2))).1 (h2 i i1 i2)
 ·intro h
  refine ⟨h.length,fun i i1 i2=>?_⟩
  obtain ⟨y,hy,k⟩:=h.at (List.getElem?_eq_getElem i1)
  rw[List.getElem?_eq_getElem i2] at hy
  cases hy
  exact (zfw (ha _ (List.getElem_mem i1)) (hb _ (List.getElem_mem i2))).2 k
noncomputable abbrev lsS (s:PS):List (List EV):=s.list.map fun w=>w.map cE
mutual
theorem PS.list_len:∀(s:PS),∀w∈s.list,w.length≤s.depth
 | .mk ms ks,w,hw=>by
  simp only [PS.list] at hw
  simp only [PS.depth]
  rcases List.mem_append.1 hw with hw|hw
  ·obtain ⟨e,_,rfl⟩:=List.mem_map.1 hw;simp
  ·have:=PK.list_len ks w hw;omega
theorem PK.list_len:∀(k:PK),∀w∈k.list,w.length≤k.depth+1
 | .nil,w,hw=>by simp [PK.list] at hw
 | .cons e s r,w,hw=>by
  simp only [PK.list] at hw
  simp only [PK.depth]
  rcases List.mem_append.1 hw with hw|hw
  ·obtain ⟨q,hq,rfl⟩:=List.mem_map.1 hw
   have:=PS.list_len s q hq
   simp only [List.length_cons];omega
  ·have:=PK.list_len r w hw;omega
end
theorem ztx {N:Nat}{s:PS}(ok:OkS N s)(hd:s.depth*168≤140737488351232):∀w∈lsS s,PthS w∧∀e∈w,GoodE e:=fun w hw=>by
 obtain ⟨q,hq,rfl⟩:=List.mem_map.1 hw
 have h1:=PS.list_len s q hq
 have h2:=(PS.list_good ok q hq).2
 have hg:∀e∈q.map cE,GoodE e:=fun e he=>by
  obtain ⟨y,hy,rfl⟩:=List.mem_map.1 he
  exact zfv (h2 y hy)
 exact ⟨⟨by rw[List.length_map];omega,fun e he=>(hg e he).s⟩,hg⟩
theorem zxb {N:Nat}{s:PS}(ok:OkS N s):OkW (lsS s):=(PS.list_ok ok).map_cE
theorem zvn {N:Nat}{s:PS}(ok:OkS N s){q:List EV}(hq:q≠ [])(ho:zjh q):s.has q=true↔∃w∈lsS s,Zf w q=0:=by
 rw[PS.has_list q ok hq ho]
 constructor
 ·rintro ⟨w,hw,h0⟩;exact ⟨_,List.mem_map.2 ⟨w,hw,rfl⟩,by rw[zgH];exact h0⟩
 ·rintro ⟨w,hw,h0⟩
  obtain ⟨x,hx,rfl⟩:=List.mem_map.1 hw
  rw[zgH] at h0
  exact ⟨x,hx,h0⟩
theorem zya (e:EV):cE e=CE e:=by
 show z8 (zR e)=CE e
 unfold zR CE
 by_cases h1:e.k=1
 ·rw[if_pos h1,if_pos h1]
  have e1:(zbL e.keys e.l).map (·.1)=e.keys.take (min e.keys.length e.l.length):=by
   rw[zbL,zlU,List.length_map]
  have e2:(zbL e.keys e.l).map (fun p=>zK p.2)=(e.l.take (min e.keys.length e.l.length)).map zw:=by
   rw[zfr,List.map_map,←zlV,List.map_map]
   exact List.map_congr_left fun p _=>zby p.2
  simp only [z8]
  rw[e1,e2]
 ·rw[if_neg h1,if_neg h1]
  by_cases h2:e.k=2
  ·rw[if_pos h2,if_pos h2];simp only [z8,zby]
  ·rw[if_neg h2,if_neg h2]
   by_cases h3:e.k=3
   ·rw[if_pos h3,if_pos h3];simp only [z8]
   ·rw[if_neg h3,if_neg h3];simp only [z8]
theorem zpC (p:List EV):cP p=p.map cE:=List.map_congr_left fun e _=>(zya e).symm
theorem OkW.map_cP {W:List (List EV)}(h:OkW W):OkW (W.map cP):=by
 have:W.map cP=W.map fun w=>w.map cE:=List.map_congr_left fun w _=>zpC w
 rw[this];exact h.map_cE
theorem zty {w:List EV}(h:PthS w)(g:∀e∈w,GoodE e):PthS (cP w)∧∀e∈cP w,GoodE e:=by
 have hg:∀e∈cP w,GoodE e:=fun e he=>by
  rw[zpC] at he
  obtain ⟨y,hy,rfl⟩:=List.mem_map.1 he
  exact zfv (g y hy)
 exact ⟨⟨by rw[List.length_map];exact h.1,fun e he=>(hg e he).s⟩,hg⟩
def znv (X Y:List (List EV)):Prop:=∀q:List EV,q≠ []→(∀e∈q,GoodE e)→((∃w∈X,Zf w q=0)↔∃w∈Y,Zf w q=0)
theorem zjw {X Y:List (List EV)}(hX:OkW X)(hY:OkW Y)(h:znv X Y):All2 (fun x y=>Zf x y=0) X Y:=by
 refine zhJ zbJ hX.oe hY.oe hX.sort hY.sort (fun x hx=>?_) fun y hy=>?_
 ·obtain ⟨w,hw,h0⟩:=(h x (hX.ne x hx) (hX.good x hx)).1 ⟨x,hx,zbJ.refl (hX.oe x hx)⟩
  exact ⟨w,hw,by have:=zbJ.anti w x (hY.oe w hw) (hX.oe x hx);omega⟩
 ·exact (h y (hY.ne y hy) (hY.good y hy)).2 ⟨y,hy,zbJ.refl (hY.oe y hy)⟩
theorem ztz {X Y:List (List EV)}(h:znv X Y):znv (X.map cP) (Y.map cP):=fun q hq hg=>by
 have key:∀Z:List (List EV),(∃w∈Z.map cP,Zf w q=0)↔∃w∈Z,Zf w q=0:=fun Z=>by
  constructor
  ·rintro ⟨w,hw,h0⟩
   obtain ⟨x,hx,rfl⟩:=List.mem_map.1 hw
   rw[zcL] at h0;exact ⟨x,hx,h0⟩
  ·rintro ⟨w,hw,h0⟩
   exact ⟨_,List.mem_map.2 ⟨w,hw,rfl⟩,by rw[zcL];exact h0⟩
 rw[key,key];exact h q hq hg
theorem zl1 {l:List (List EV)}(hg:∀p∈l,∀e∈p,GoodE e){q:List EV}(hq:q≠ [])(ho:zjh q):(∃w∈mkW l,Zf w q=0)↔(mkP l).has q=true:=by
 obtain ⟨_,_,h⟩:=zgE _ l rfl hg
 rw[h q hq ho,zcm]
theorem zl2 {l:List (List EV)}(hg:∀p∈l,∀e∈p,GoodE e):OkW (mkW l):=(zgE _ l rfl hg).1
theorem zpD (A:List EV):zaw (A.map zR)= .sl tPE (A.map eD):=by simp only [zaw,List.map_map];rfl
theorem zl3 {A:List EV}(h:∀e∈A,GoodE e):∀x∈A.map zR,Z5 x:=fun x hx=>by
 obtain ⟨y,hy,rfl⟩:=List.mem_map.1 hx
 exact (h y hy).f.le
theorem zvo (A B:List EV)(hl:(A.length+B.length)*32≤140737488351232)(hA:∀e∈A,GoodE e)(hB:∀e∈B,GoodE e)(sA:zaQ A)(sB:zaQ B):
  ACalls prog 150 [.c (.d (.pt [.sl tPE (A.map eD)])),.c (.d (.pt [.sl tPE (B.map eD)]))] (fun r=>r= .c (.d (.pt [.sl tPE ((A.filter fun e=> !zas e B).map eD)]))):=by
 have h:=zjj (A.map zR) (B.map zR) (by simpa using hl) (zl3 hA) (zl3 hB)
 rw[znt _ A B rfl hA hB sA sB,zpD,zpD,zpD] at h
 exact h
end Go.Smd
end
section
namespace Go.Smd
open Go.RowKit
section
variable {P:Program} {N:Nat} {w0:World} {S0:Env} {σ:St}
theorem Weak.adoptT {t id:Nat}{E:TypeId}(ht:σ.tmp t= .c (.d (.v (.slice none 0 0))))(hid:σ.h id=none)(hlt:id<zed):
  Weak P N w0 S0 σ ((σ.new id (.arr 0 E [])).put (some t) (.c (.gs id 0))):=fun β a w s=>by
 obtain ⟨β1,s1,h1,_⟩:=s.nilArr E hlt hid
 refine ⟨β1,s1.ext,s1.hK,s1.kept,s1.inj,s1.new,s1.own,fun t'=>?_,s1.sz,s1.dfr⟩
 by_cases e:t=t'
 ·subst e
  have h2:=s.tmp t
  rw[ht] at h2
  have h3:((σ.new id (.arr 0 E [])).put (some t) (.c (.gs id 0))).tmp t= .c (.gs id 0):=by simp [St.put,St.tmp,zd]
  rw[h3]
  exact h1 _ (RepD.mono (show RepD P w _ (.v (.slice none 0 0)) _ from h2) fun _ _=>trivial)
 ·have h3:((σ.new id (.arr 0 E [])).put (some t) (.c (.gs id 0))).tmp t'=(σ.new id (.arr 0 E [])).tmp t':=by simp [St.put,St.tmp,zd,e]
  rw[h3]
  exact s1.tmp t'
end
end Go.Smd
end
