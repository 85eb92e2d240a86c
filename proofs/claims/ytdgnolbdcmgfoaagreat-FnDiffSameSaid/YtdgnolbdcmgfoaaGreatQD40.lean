/- Part 40. -/
import Derived.Test.YtdgnolbdcmgfoaaGreatQD38
import Derived.Test.YtdgnolbdcmgfoaaGreatQD39
import Derived.Test.YtdgnolbdcmgfoaaGreatQD25
set_option linter.unusedVariables false
set_option linter.unusedSimpArgs false
set_option maxRecDepth 100000
set_option maxHeartbeats 8000000
section
namespace Go.Smd
open Go.RowKit Go.Proofs Go.Proofs.Tryz
noncomputable abbrev zgc (v:Value)(p:List EV)(ver:Nat)(R:List (List D)):List (Nat×Ow):=
 [(1000000002,.cells [.gs 1000000003 ver] zdr),(1000000003,.arr ver tSP R),(1000000004,zeN),(1000000005,.clo (.pin v tPE (p.map eD)) [])]
noncomputable abbrev zmH (n:Nat)(p:List EV)(ver:Nat)(R:List (List D)):List (Nat×Ow):=
 [(1000000002,.cells [.gs 1000000003 ver] zdr),(1000000003,.arr ver tSP R),(1000000004,zeN),(1000000005,.arr n tPE (p.map eD))]
def CIter (s:PS):Prop:=∀(v:Value) (ver:Nat) (R:List (List D)) (p:List EV),IsPin v p.length→(∀x∈p,GoodE x)→(p.length+s.depth)*168≤140737488351232→(R.length+s.size)*24≤140737488351232→
 AProc prog 195 [.c (.d (.pt (psD s))),.c (.d (.v v)),.c (.fn 1000000004)] (zgc v p ver R) (fun r own'=>r= .tup []∧own'=zgc v p (ver+s.size) (R++zcF p s.list))
theorem ziQ {f:FuncId}{X:D}{p:List EV}{ver ver':Nat}{R R':List (List D)}(n:Nat)(h:∀v,IsPin v p.length→AProc prog f [.c (.d X),.c (.d (.v v)),.c (.fn 1000000004)] (zgc v p ver R) (fun r own'=>r= .tup []∧own'=zgc v p ver' R')):
  AProc prog f [.c (.d X),.c (.gs 1000000005 n),.c (.fn 1000000004)] (zmH n p ver R) (fun r own'=>r= .tup []∧own'=zmH n p ver' R'):=by
 refine AProc.unpin (q:=1000000005) (n:=n) (E:=tPE) (xs:=p.map eD) rfl (by simp [Av.ids,Cl.ids]) ?_ fun v hv=>?_
 ·intro i o hi
  have:=Zn hi
  simp only [List.mem_cons,List.not_mem_nil,or_false,Prod.mk.injEq] at this
  rcases this with ⟨_,rfl⟩|⟨_,rfl⟩|⟨_,rfl⟩|⟨_,rfl⟩<;>simp [Ow.ids,Cl.ids]
 ·have h1:=h v (by simpa using hv)
  refine h1.mono ?_
  rintro r own' ⟨rfl,rfl⟩
  refine ⟨zmH n p ver' R',rfl,rfl,⟨rfl,rfl⟩,rfl,fun i o hi=>?_,by simp [Av.ids]⟩
  have:=Zn hi
  simp only [List.mem_cons,List.not_mem_nil,or_false,Prod.mk.injEq] at this
  rcases this with ⟨_,rfl⟩|⟨_,rfl⟩|⟨_,rfl⟩|⟨_,rfl⟩<;>simp [Ow.ids,Cl.ids]
theorem CIter.unpin {s:PS}(h:CIter s)(n ver:Nat)(R:List (List D))(p:List EV)(hp:∀x∈p,GoodE x)(hd:(p.length+s.depth)*168≤140737488351232)(hb:(R.length+s.size)*24≤140737488351232):
  AProc prog 195 [.c (.d (.pt (psD s))),.c (.gs 1000000005 n),.c (.fn 1000000004)] (zmH n p ver R) (fun r own'=>r= .tup []∧own'=zmH n p (ver+s.size) (R++zcF p s.list)):=
 ziQ n fun v hv=>h v ver R p hv hp hd hb
theorem zv4 {P:Program}{N:Nat}{w0:World}{S0:Env}{Q:Exit→St→Prop}{sc:Sch}{k:List Fr}{n i:Nat}{l:List Oper}{tl tl':List (Nat×Av)}{hl hl':List (Nat×Ow)}{t:Tg (P,N,w0,S0,Q,sc,k,l,n,tl,hl)}{t':Tg (P,N,w0,S0,Q,sc,k,l,n,tl',hl')}(hw:Weak P N w0 S0 ⟨tl,hl⟩ ⟨tl',hl'⟩)(h:exD P N w0 S0 Q sc k i l n tl' hl' t' none):exD P N w0 S0 Q sc k i l n tl hl t none:=by
 refine (show AWp P N w0 S0 (.region i l.toArray true) (KQ P N w0 S0 Q k) ⟨tl,hl⟩ from AWp.weak hw ?_)
 exact (show AWp P N w0 S0 (.region i l.toArray true) (KQ P N w0 S0 Q k) ⟨tl',hl'⟩ from h)
abbrev FK:FuncId:=227
theorem zuh (k:PK)(v:Value)(ver:Nat)(R:List (List D))(p:List EV)(hv:IsPin v p.length)(hp:∀x∈p,GoodE x)(hb:k.es.length≤4000000000000)(hd:(p.length+1+k.depth)*168≤140737488351232)(hR:(R.length+k.size)*24≤140737488351232)
  (gk:∀x∈k.es,GoodE x) (h:∀s∈k.ss,CIter s):
  AProc prog FK [.c (.d (.pt [.sl tSN (pkD k)])),.c (.d (.v v)),.c (.fn 1000000004)] (zgc v p ver R) (fun r own'=>r= .tup []∧own'=zgc v p (ver+k.size) (R++zcF p k.list)):=by
 have hl:=zc9 k
 have hl2:=PK.ss_length k
 have b1:(pkD k).length≤9223372036854775807:=by omega
 unfold zgc
 refine zcX [] func227 (by kernel_rfl) rfl ntmps227 results227 (Nat.le_of_ble_eq_true (by kernel_rfl)) ?_;intro hok w0 S0 hpin
 (repeat' (first|(with_reducible first|refine zj (fun _=>?_) (fun _=>?_)|refine zi (fun _=>?_) (fun _=>?_)|refine zk zb (by kernel_rfl) ?_|exact za rfl)|(simp -dsimp [b1])));(all_goals try with_reducible refine za ?_)
 refine zF (fun i:Nat=>⟨[(1,.c (.d (.v v))),(2,.c (.fn 1000000004)),(12,.c (.d (.sl tSN (pkD k)))),(13,aI (pkD k).length),(14,aI i)],zgc v p (ver+(k.take i).size) (R++zcF p (k.take i).list)⟩) (fun i=>i≤(pkD k).length) (fun i=>(pkD k).length - i) 0 ?_ (Nat.zero_le _) ?_
 ·simp only [PK.take_zero,PK.size,PK.list,zcF,List.map_nil,List.append_nil,Nat.add_zero]
  exact Weak.same (by simp -dsimp) (by simp -dsimp) (by first|rfl|(simp [zg,Av.ids,Ow.ids,Cl.ids,Go.Smd.keys];done))
 ·rintro i hi K hK
  by_cases hlt:i<(pkD k).length
  ·have hw:IntKind.wrap .i64 ((i:Int)+1)=((i+1:Nat):Int):=by rw[zq]<;>omega
   have h1:i<k.es.length:=by omega
   have h2:i<k.ss.length:=by omega
   obtain ⟨e0,e1,e2,e3,A,B,hn,he,_,hps,_,_⟩:=zdb k i hlt h1 h2
   have hc:=h _ (List.getElem_mem h2)
   have hdp:=PK.depth_le _ (List.getElem_mem h2)
   have hsz:=PK.take_size h1 h2
   have hls:=PK.take_list h1 h2
   have hle:=PK.take_le k (i+1)
   have gp:∀x∈p++ [k.es[i]],GoodE x:=fun x hx=>by
    rcases List.mem_append.1 hx with h|h
    ·exact hp x h
    ·rw[List.mem_singleton.1 h];exact gk _ (List.getElem_mem h1)
   have hm1:(p.map eD).length=p.length:=by simp
   have hpe:(p++ [k.es[i]]).map eD=p.map eD++ [[e0,e1,e2,e3]]:=by rw[List.map_append,←he];rfl
   have hpl:(p++ [k.es[i]]).length=p.length+1:=by simp
   have hRl:(R++zcF p (k.take i).list).length=R.length+(k.take i).size:=by rw[List.length_append,List.length_map,PK.list_length]
   have hnx:R++zcF p (k.take (i+1)).list=R++zcF p (k.take i).list++zcF (p++ [k.es[i]]) (k.ss[i]).list:=by
    rw[hls,zcF,List.map_append,←zpU,List.append_assoc]
   have hvr:ver+(k.take (i+1)).size=ver+(k.take i).size+(k.ss[i]).size:=by omega
   have bd:((p++ [k.es[i]]).length+(k.ss[i]).depth)*168≤140737488351232:=by rw[hpl];omega
   have bR:((R++zcF p (k.take i).list).length+(k.ss[i]).size)*24≤140737488351232:=by rw[hRl];omega
   have bm:(p.length+1)*32≤140737488351232:=by omega
   obtain ⟨R1,hR1⟩:∃R1,R1=R++zcF p (k.take i).list:=⟨_,rfl⟩
   obtain ⟨R2,hR2⟩:∃R2,R2=R++zcF p (k.take (i+1)).list:=⟨_,rfl⟩
   obtain ⟨V1,hV1⟩:∃V1,V1=ver+(k.take i).size:=⟨_,rfl⟩
   obtain ⟨V2,hV2⟩:∃V2,V2=ver+(k.take (i+1)).size:=⟨_,rfl⟩
   have cP:=fun (v':Value) (hv':IsPin v' (p++ [k.es[i]]).length)=>hc v' V1 R1 (p++ [k.es[i]]) hv' gp bd (by rw[hR1];exact bR)
   have cU:=hc.unpin 1 V1 R1 (p++ [k.es[i]]) gp bd (by rw[hR1];exact bR)
   unfold zgc at cP
   unfold zmH at cU
   have e1:R1++zcF (p++ [k.es[i]]) (k.ss[i]).list=R2:=by rw[hR1,hR2,hnx]
   have e2:V1+(k.ss[i]).size=V2:=by omega
   rw[e1,e2,hpe,hps] at cU
   rw[e1,e2,hpe,hps] at cP
   have lf:prog.lay tFP=some (1,false):=by kernel_rfl
   have ct:ZP prog tFP= [none]:=by kernel_rfl
   clear hls hsz hle hdp hRl hnx hvr bd bR hc h gp e1 e2 hp hd hR
   unfold zgc
   rw[←hR1,←hV1]
   rcases id hv with ⟨rfl,h0⟩|⟨g,cap,rfl,hcap⟩
   ·have hp0:p= []:=List.eq_nil_of_length_eq_zero h0
    subst hp0
    clear cP
    simp only [List.map_nil,List.nil_append] at cU ⊢
    (repeat' (first|(with_reducible first|refine zj (fun _=>?_) (fun _=>?_)|refine zi (fun _=>?_) (fun _=>?_)|refine zk zb (by kernel_rfl) ?_|exact za rfl)|(simp -dsimp [b1,hlt,hw,hn])));(all_goals try with_reducible refine za ?_)
    refine zcB ?_
    refine Zz zb [[],[0],[],[],[3],[2,3,4],[],[0,1,2,3,4,5,6]] [0,1,2,3,4,5,6,7] [4,5,7] [([],⟨[(20,?m20u1),(21,?m21u1),(22,?m22u1),(23,?m23u1),(24,?m24u1),(25,?m25u1),(26,?m26u1),(27,?m27u1)],?bu1,?o0u1⟩),([4],⟨[(20,?m20u1),(21,?m21u1),(22,?m22u1),(23,?m23u1),(24,?m24u1),(25,?m25u1),(26,?m26u1),(27,?m27u1)],?bu1,?o1u1⟩),([4,5],⟨[(20,?m20u1),(21,?m21u1),(22,?m22u1),(23,?m23u1),(24,?m24u1),(25,?m25u1),(26,?m26u1),(27,?m27u1)],?bu1,?o2u1⟩),([4,5,7],⟨[(20,?m20u1),(21,?m21u1),(22,?m22u1),(23,?m23u1),(24,?m24u1),(25,?m25u1),(26,?m26u1),(27,?m27u1)],?bu1,?o3u1⟩)] ?hoku1 rfl rfl ?hbu1 ?hou1 ?hstu1 ?hku1
    case' hbu1=>rfl
    case' hou1=>rfl
    case' hstu1=>refine ⟨⟨?v0u1,?s0u1⟩,⟨⟨?v1u1,?s1u1⟩,⟨⟨?v2u1,?s2u1⟩,⟨⟨?v3u1,?s3u1⟩,True.intro⟩⟩⟩⟩
    case v0u1=>
     iterate 4 refine ⟨.inr ⟨_,rfl,zm (zY rfl rfl (by simp -dsimp [ze,zc,bm,lf,ct]<;>with_reducible rfl))⟩,?_⟩
     iterate 2 refine ⟨.inl (by kernel_rfl),?_⟩
     refine ⟨.inr ⟨_,rfl,zm (zY rfl rfl (by simp -dsimp [ze,zc,bm,lf,ct]<;>with_reducible rfl))⟩,?_⟩
     refine ⟨.inl (by kernel_rfl),?_⟩
     exact True.intro
    case s0u1=>
     refine ⟨.inr ⟨_,_,rfl,rfl,zI (zaK (hdk:=rfl) (hW:=rfl) (hq:=by simp -dsimp [ze,zc,bm,lf,ct]<;>(first|done|rfl|exact ⟨rfl,rfl⟩|exact ⟨rfl,rfl,rfl⟩)) (hoo:=rfl) (hv:=by simp -dsimp [ze,zc,bm,lf,ct]<;>with_reducible rfl)) (by simp -dsimp [ze,zQ,zao,zc,bm,lf,ct]<;>with_reducible rfl)⟩,?_⟩
     iterate 2 refine ⟨.inl (by kernel_rfl),?_⟩
     exact True.intro
    case v1u1=>
     iterate 3 refine ⟨.inr ⟨_,rfl,zm (zY rfl rfl (by simp -dsimp [ze,zc,bm,lf,ct]<;>with_reducible rfl))⟩,?_⟩
     iterate 3 refine ⟨.inl (by kernel_rfl),?_⟩
     refine ⟨.inr ⟨_,rfl,zm (zY rfl rfl (by simp -dsimp [ze,zc,bm,lf,ct]<;>with_reducible rfl))⟩,?_⟩
     refine ⟨.inl (by kernel_rfl),?_⟩
     exact True.intro
    case s1u1=>
     refine ⟨.inl (by kernel_rfl),?_⟩
     refine ⟨.inr ⟨_,_,rfl,rfl,zI (zaK (hdk:=rfl) (hW:=rfl) (hq:=by simp -dsimp [ze,zc,bm,lf,ct]<;>(first|done|rfl|exact ⟨rfl,rfl⟩|exact ⟨rfl,rfl,rfl⟩)) (hoo:=rfl) (hv:=by simp -dsimp [ze,zc,bm,lf,ct]<;>with_reducible rfl)) (by simp -dsimp [ze,zQ,zao,zc,bm,lf,ct]<;>with_reducible rfl)⟩,?_⟩
     refine ⟨.inl (by kernel_rfl),?_⟩
     exact True.intro
    case v2u1=>
     iterate 2 refine ⟨.inr ⟨_,rfl,zm (zY rfl rfl (by simp -dsimp [ze,zc,bm,lf,ct]<;>with_reducible rfl))⟩,?_⟩
     iterate 4 refine ⟨.inl (by kernel_rfl),?_⟩
     refine ⟨.inr ⟨_,rfl,zm (zY rfl rfl (by simp -dsimp [ze,zc,bm,lf,ct]<;>with_reducible rfl))⟩,?_⟩
     refine ⟨.inl (by kernel_rfl),?_⟩
     exact True.intro
    case' s2u1=>
     iterate 2 refine ⟨.inl (by kernel_rfl),?_⟩
     refine ⟨.inr ⟨_,_,rfl,rfl,zI (zfz (d:=27) (ρ:=[(1000000002,1000000002),(1000000003,1000000003),(1000000004,1000000004),(1000000005,25)]) (t:=7) (hR:=cU) (hp:=rfl) (hd:=rfl) (hdk:=rfl) (hc:=by simp -dsimp [ze,zc,bm,lf,ct]<;>(first|done|rfl|exact ⟨rfl,rfl⟩|exact ⟨rfl,rfl,rfl⟩)) (hx:=by simp -dsimp [ze,zc,bm,lf,ct]<;>with_reducible rfl) (ho:=by simp -dsimp [ze,zc,bm,lf,ct]) (hh:=by simp -dsimp [ze,zc,bm,lf,ct]) (hb:=by simp -dsimp [ze,zc,bm,lf,ct]) (h1:=by simp -dsimp [ze,zc,bm,lf,ct]<;>with_reducible rfl) (hv:=by simp -dsimp [ze,zc,bm,lf,ct]<;>with_reducible rfl) (hfix:= ?hf7k2u1)) (by simp -dsimp [ze,zQ,zao,zc,bm,lf,ct]<;>with_reducible rfl)⟩,?_⟩
     rotate_left
     exact True.intro
    case v3u1=>
     iterate 8 refine ⟨.inl (by kernel_rfl),?_⟩
     exact True.intro
    case s3u1=>
     iterate 3 refine ⟨.inl (by kernel_rfl),?_⟩
     exact True.intro
    case s2u1=>simp -dsimp [ze,Av.ids,Cl.ids,zc,bm,lf,ct]
    case hoku1=>kernel_rfl
    refine ⟨rfl,?_⟩
    (repeat' (first|(with_reducible first|refine zj (fun _=>?_) (fun _=>?_)|refine zi (fun _=>?_) (fun _=>?_)|refine zk zb (by kernel_rfl) ?_|exact za rfl)|(simp -dsimp [hw])));(all_goals try with_reducible refine za ?_)
    refine hK _ (i+1) ?_ (by omega) (by omega)
    rw[←hR2,←hV2]
    unfold zgc
    simp only [List.map_nil]
    exact Weak.same (by simp -dsimp) (by simp -dsimp) (by first|rfl|(simp [zg,Av.ids,Ow.ids,Cl.ids,Go.Smd.keys];done))
   ·have hm:=hm1
    have bcap:p.length+1≤9223372036854775807:=by omega
    by_cases hr:p.length+1≤cap
    ·have hroom:=hr
     have cV:=cP (.slice (some ⟨g,0,none⟩) (p.length+1) cap) (.inr ⟨g,cap,by rw[hpl],by rw[hpl];exact hr⟩)
     clear cU cP
     obtain ⟨X,hX⟩:∃X,X=p.map eD:=⟨_,rfl⟩
     rw[←hX] at hm cV hpin ⊢
     (repeat' (first|(with_reducible first|refine zj (fun _=>?_) (fun _=>?_)|refine zi (fun _=>?_) (fun _=>?_)|refine zk zb (by kernel_rfl) ?_|exact za rfl)|(simp -dsimp [b1,hlt,hw,hn])));(all_goals try with_reducible refine za ?_)
     refine zsk ?_
     refine Zz zb [[],[0],[],[],[3],[2,3,4],[],[0,1,2,3,4,5,6]] [0,1,2,3,4,5,6,7] [4,5,7] [([],⟨[(20,?m20u2),(21,?m21u2),(22,?m22u2),(23,?m23u2),(24,?m24u2),(25,?m25u2),(26,?m26u2),(27,?m27u2)],?bu2,?o0u2⟩),([4],⟨[(20,?m20u2),(21,?m21u2),(22,?m22u2),(23,?m23u2),(24,?m24u2),(25,?m25u2),(26,?m26u2),(27,?m27u2)],?bu2,?o1u2⟩),([4,5],⟨[(20,?m20u2),(21,?m21u2),(22,?m22u2),(23,?m23u2),(24,?m24u2),(25,?m25u2),(26,?m26u2),(27,?m27u2)],?bu2,?o2u2⟩),([4,5,7],⟨[(20,?m20u2),(21,?m21u2),(22,?m22u2),(23,?m23u2),(24,?m24u2),(25,?m25u2),(26,?m26u2),(27,?m27u2)],?bu2,?o3u2⟩)] ?hoku2 rfl rfl ?hbu2 ?hou2 ?hstu2 ?hku2
     case' hbu2=>rfl
     case' hou2=>rfl
     case' hstu2=>refine ⟨⟨?v0u2,?s0u2⟩,⟨⟨?v1u2,?s1u2⟩,⟨⟨?v2u2,?s2u2⟩,⟨⟨?v3u2,?s3u2⟩,True.intro⟩⟩⟩⟩
     case v0u2=>
      iterate 4 refine ⟨.inr ⟨_,rfl,zm (zY rfl rfl (by simp -dsimp [ze,zc,bm,lf,ct]<;>with_reducible rfl))⟩,?_⟩
      iterate 2 refine ⟨.inl (by kernel_rfl),?_⟩
      refine ⟨.inr ⟨_,rfl,zm (zY rfl rfl (by simp -dsimp [ze,zc,bm,lf,ct]<;>with_reducible rfl))⟩,?_⟩
      refine ⟨.inl (by kernel_rfl),?_⟩
      exact True.intro
     case s0u2=>
      refine ⟨.inr ⟨_,_,rfl,rfl,zI (zaK (hdk:=rfl) (hW:=rfl) (hq:=by simp -dsimp [ze,zc,bm,lf,ct]<;>(first|done|rfl|exact ⟨rfl,rfl⟩|exact ⟨rfl,rfl,rfl⟩)) (hoo:=rfl) (hv:=by simp -dsimp [ze,zc,bm,lf,ct]<;>with_reducible rfl)) (by simp -dsimp [ze,zQ,zao,zc,bm,lf,ct]<;>with_reducible rfl)⟩,?_⟩
      iterate 2 refine ⟨.inl (by kernel_rfl),?_⟩
      exact True.intro
     case v1u2=>
      iterate 3 refine ⟨.inr ⟨_,rfl,zm (zY rfl rfl (by simp -dsimp [ze,zc,bm,lf,ct]<;>with_reducible rfl))⟩,?_⟩
      iterate 3 refine ⟨.inl (by kernel_rfl),?_⟩
      refine ⟨.inr ⟨_,rfl,zm (zY rfl rfl (by simp -dsimp [ze,zc,bm,lf,ct]<;>with_reducible rfl))⟩,?_⟩
      refine ⟨.inl (by kernel_rfl),?_⟩
      exact True.intro
     case' s1u2=>
      refine ⟨.inl (by kernel_rfl),?_⟩
      refine ⟨.inr ⟨_,_,rfl,rfl,zI (zmC (n:=999) (q:=1000000005) ⟨by decide,by decide,by simp -dsimp [ze,zc,bm,lf,ct]⟩ (hop:=rfl) (hd:=rfl) (hdk:=rfl) ⟨by decide,by simp -dsimp [ze,zc,bm,lf,ct]⟩ (hT:=by kernel_rfl) (hE:=by kernel_rfl) (hn:=by first|rfl|kernel_rfl) (hx:=by simp -dsimp [ze,zc,bm,lf,ct]<;>(first|done|rfl|exact ⟨rfl,rfl⟩|exact ⟨rfl,rfl,rfl⟩|exact ⟨⟨rfl,rfl,rfl⟩,rfl,rfl⟩)) (hzv:=by simp -dsimp [ze,zc,bm,lf,ct]<;>(first|done|rfl|exact ⟨rfl,rfl⟩|exact ⟨rfl,rfl,rfl⟩|exact ⟨⟨rfl,rfl,rfl⟩,rfl,rfl⟩)) (hr:=by simp -dsimp [ze,zc,bm,lf,ct]<;>(first|done|rfl|exact ⟨rfl,rfl⟩|exact ⟨rfl,rfl,rfl⟩|exact ⟨⟨rfl,rfl,rfl⟩,rfl,rfl⟩)) (hq:=by first|rfl|(simp -dsimp [ze,zc,bm,lf,ct]<;>(first|done|rfl|exact ⟨rfl,rfl⟩|exact ⟨rfl,rfl,rfl⟩|exact ⟨⟨rfl,rfl,rfl⟩,rfl,rfl⟩))) (hm:=by first|assumption|rfl|simp;done) (hroom:=by first|assumption|omega) (hb:=by simp -dsimp [ze,zc,bm,lf,ct]<;>first|done|assumption|omega) (hfree:= ?hf5k1u2) (hfo:=by simp -dsimp [ze,Av.ids,Ow.ids,Cl.ids,zc,bm,lf,ct]) (ho:=by with_reducible rfl) (hv:=by simp -dsimp [ze,zc,bm,lf,ct]<;>with_reducible rfl)) (by simp -dsimp [ze,zQ,zao,zbt,zc,bm,lf,ct]<;>with_reducible rfl)⟩,?_⟩
      rotate_left
      refine ⟨.inl (by kernel_rfl),?_⟩
      exact True.intro
     case v2u2=>
      iterate 2 refine ⟨.inr ⟨_,rfl,zm (zY rfl rfl (by simp -dsimp [ze,zc,bm,lf,ct]<;>with_reducible rfl))⟩,?_⟩
      iterate 4 refine ⟨.inl (by kernel_rfl),?_⟩
      refine ⟨.inr ⟨_,rfl,zm (zY rfl rfl (by simp -dsimp [ze,zc,bm,lf,ct]<;>with_reducible rfl))⟩,?_⟩
      refine ⟨.inl (by kernel_rfl),?_⟩
      exact True.intro
     case' s2u2=>
      iterate 2 refine ⟨.inl (by kernel_rfl),?_⟩
      refine ⟨.inr ⟨_,_,rfl,rfl,zI (zfz (d:=27) (ρ:=[(1000000002,1000000002),(1000000003,1000000003),(1000000004,1000000004),(1000000005,25)]) (t:=7) (hR:=cV) (hp:=rfl) (hd:=rfl) (hdk:=rfl) (hc:=by simp -dsimp [ze,zc,bm,lf,ct]<;>(first|done|rfl|exact ⟨rfl,rfl⟩|exact ⟨rfl,rfl,rfl⟩)) (hx:=by simp -dsimp [ze,zc,bm,lf,ct]<;>with_reducible rfl) (ho:=by simp -dsimp [ze,zc,bm,lf,ct]) (hh:=by simp -dsimp [ze,zc,bm,lf,ct]) (hb:=by simp -dsimp [ze,zc,bm,lf,ct]) (h1:=by simp -dsimp [ze,zc,bm,lf,ct]<;>with_reducible rfl) (hv:=by simp -dsimp [ze,zc,bm,lf,ct]<;>with_reducible rfl) (hfix:= ?hf7k2u2)) (by simp -dsimp [ze,zQ,zao,zc,bm,lf,ct]<;>with_reducible rfl)⟩,?_⟩
      rotate_left
      exact True.intro
     case v3u2=>
      iterate 8 refine ⟨.inl (by kernel_rfl),?_⟩
      exact True.intro
     case s3u2=>
      iterate 3 refine ⟨.inl (by kernel_rfl),?_⟩
      exact True.intro
     case s1u2=>simp -dsimp [ze,Av.ids,Ow.ids,Cl.ids,zc,bm,lf,ct]
     case s2u2=>simp -dsimp [ze,Av.ids,Cl.ids,zc,bm,lf,ct]
     case hoku2=>kernel_rfl
     refine ⟨rfl,_,Weak.pinPop (q:=25) (d:=1000000005) (hid:=by simp -dsimp [ze,zc,bm,lf,ct]<;>with_reducible rfl) (hm:=by assumption) (hd:=by simp -dsimp [ze,zc,bm,lf,ct]) (ht:=by simp -dsimp [ze,Av.ids,Ow.ids,Cl.ids,zc,bm,lf,ct]) (hqo:=by simp -dsimp [ze,Av.ids,Ow.ids,Cl.ids,zc,bm,lf,ct]) (hk:=fun o0 h=>hpin 1000000005 _ _ _ rfl o0 h),?_⟩
     (repeat' (first|(with_reducible first|refine zj (fun _=>?_) (fun _=>?_)|refine zi (fun _=>?_) (fun _=>?_)|refine zk zb (by kernel_rfl) ?_|exact za rfl)|(simp -dsimp [hw,St.del,St.new,zbt])));(all_goals try with_reducible refine za ?_)
     refine hK _ (i+1) ?_ (by omega) (by omega)
     rw[←hR2,←hV2]
     unfold zgc
     rw[←hX]
     exact Weak.same (by simp -dsimp) (by simp -dsimp) (by first|rfl|(simp [zg,Av.ids,Ow.ids,Cl.ids,Go.Smd.keys];done))
    ·have hfull:∀g' cap',Value.slice (some ⟨g,0,none⟩) p.length cap= .slice (some ⟨g',0,none⟩) p.length cap'→cap'<p.length+1:=fun g' cap' h=>by injection h with _ _ h3;omega
     clear cP
     obtain ⟨X,hX⟩:∃X,X=p.map eD:=⟨_,rfl⟩
     rw[←hX] at hm cU hpin ⊢
     (repeat' (first|(with_reducible first|refine zj (fun _=>?_) (fun _=>?_)|refine zi (fun _=>?_) (fun _=>?_)|refine zk zb (by kernel_rfl) ?_|exact za rfl)|(simp -dsimp [b1,hlt,hw,hn])));(all_goals try with_reducible refine za ?_)
     refine zcB ?_
     refine Zz zb [[],[0],[],[],[3],[2,3,4],[],[0,1,2,3,4,5,6]] [0,1,2,3,4,5,6,7] [4,5,7] [([],⟨[(20,?m20u3),(21,?m21u3),(22,?m22u3),(23,?m23u3),(24,?m24u3),(25,?m25u3),(26,?m26u3),(27,?m27u3)],?bu3,?o0u3⟩),([4],⟨[(20,?m20u3),(21,?m21u3),(22,?m22u3),(23,?m23u3),(24,?m24u3),(25,?m25u3),(26,?m26u3),(27,?m27u3)],?bu3,?o1u3⟩),([4,5],⟨[(20,?m20u3),(21,?m21u3),(22,?m22u3),(23,?m23u3),(24,?m24u3),(25,?m25u3),(26,?m26u3),(27,?m27u3)],?bu3,?o2u3⟩),([4,5,7],⟨[(20,?m20u3),(21,?m21u3),(22,?m22u3),(23,?m23u3),(24,?m24u3),(25,?m25u3),(26,?m26u3),(27,?m27u3)],?bu3,?o3u3⟩)] ?hoku3 rfl rfl ?hbu3 ?hou3 ?hstu3 ?hku3
     case' hbu3=>rfl
     case' hou3=>rfl
     case' hstu3=>refine ⟨⟨?v0u3,?s0u3⟩,⟨⟨?v1u3,?s1u3⟩,⟨⟨?v2u3,?s2u3⟩,⟨⟨?v3u3,?s3u3⟩,True.intro⟩⟩⟩⟩
     case v0u3=>
      iterate 4 refine ⟨.inr ⟨_,rfl,zm (zY rfl rfl (by simp -dsimp [ze,zc,bm,lf,ct]<;>with_reducible rfl))⟩,?_⟩
      iterate 2 refine ⟨.inl (by kernel_rfl),?_⟩
      refine ⟨.inr ⟨_,rfl,zm (zY rfl rfl (by simp -dsimp [ze,zc,bm,lf,ct]<;>with_reducible rfl))⟩,?_⟩
      refine ⟨.inl (by kernel_rfl),?_⟩
      exact True.intro
     case s0u3=>
      refine ⟨.inr ⟨_,_,rfl,rfl,zI (zaK (hdk:=rfl) (hW:=rfl) (hq:=by simp -dsimp [ze,zc,bm,lf,ct]<;>(first|done|rfl|exact ⟨rfl,rfl⟩|exact ⟨rfl,rfl,rfl⟩)) (hoo:=rfl) (hv:=by simp -dsimp [ze,zc,bm,lf,ct]<;>with_reducible rfl)) (by simp -dsimp [ze,zQ,zao,zc,bm,lf,ct]<;>with_reducible rfl)⟩,?_⟩
      iterate 2 refine ⟨.inl (by kernel_rfl),?_⟩
      exact True.intro
     case v1u3=>
      iterate 3 refine ⟨.inr ⟨_,rfl,zm (zY rfl rfl (by simp -dsimp [ze,zc,bm,lf,ct]<;>with_reducible rfl))⟩,?_⟩
      iterate 3 refine ⟨.inl (by kernel_rfl),?_⟩
      refine ⟨.inr ⟨_,rfl,zm (zY rfl rfl (by simp -dsimp [ze,zc,bm,lf,ct]<;>with_reducible rfl))⟩,?_⟩
      refine ⟨.inl (by kernel_rfl),?_⟩
      exact True.intro
     case' s1u3=>
      refine ⟨.inl (by kernel_rfl),?_⟩
      refine ⟨.inr ⟨_,_,rfl,rfl,zI (zmD (n:=999) (q:=1000000005) ⟨by decide,by decide,by simp -dsimp [ze,zc,bm,lf,ct]⟩ (hop:=rfl) (hd:=rfl) (hdk:=rfl) ⟨by decide,by simp -dsimp [ze,zc,bm,lf,ct]⟩ (hT:=by kernel_rfl) (hE:=by kernel_rfl) (hn:=by first|rfl|kernel_rfl) (hx:=by simp -dsimp [ze,zc,bm,lf,ct]<;>(first|done|rfl|exact ⟨rfl,rfl⟩|exact ⟨rfl,rfl,rfl⟩|exact ⟨⟨rfl,rfl,rfl⟩,rfl,rfl⟩)) (hzv:=by simp -dsimp [ze,zc,bm,lf,ct]<;>(first|done|rfl|exact ⟨rfl,rfl⟩|exact ⟨rfl,rfl,rfl⟩|exact ⟨⟨rfl,rfl,rfl⟩,rfl,rfl⟩)) (hr:=by simp -dsimp [ze,zc,bm,lf,ct]<;>(first|done|rfl|exact ⟨rfl,rfl⟩|exact ⟨rfl,rfl,rfl⟩|exact ⟨⟨rfl,rfl,rfl⟩,rfl,rfl⟩)) (hq:=by first|rfl|(simp -dsimp [ze,zc,bm,lf,ct]<;>(first|done|rfl|exact ⟨rfl,rfl⟩|exact ⟨rfl,rfl,rfl⟩|exact ⟨⟨rfl,rfl,rfl⟩,rfl,rfl⟩))) (hm:=by first|assumption|rfl|simp;done) (hfull:=by first|assumption|omega) (hb:=by simp -dsimp [ze,zc,bm,lf,ct]<;>first|done|assumption|omega) (hfree:= ?hf5k1u3) (hfo:=by simp -dsimp [ze,Av.ids,Ow.ids,Cl.ids,zc,bm,lf,ct]) (ho:=by with_reducible rfl) (hv:=by simp -dsimp [ze,zc,bm,lf,ct]<;>with_reducible rfl)) (by simp -dsimp [ze,zQ,zao,zbt,zc,bm,lf,ct]<;>with_reducible rfl)⟩,?_⟩
      rotate_left
      refine ⟨.inl (by kernel_rfl),?_⟩
      exact True.intro
     case v2u3=>
      iterate 2 refine ⟨.inr ⟨_,rfl,zm (zY rfl rfl (by simp -dsimp [ze,zc,bm,lf,ct]<;>with_reducible rfl))⟩,?_⟩
      iterate 4 refine ⟨.inl (by kernel_rfl),?_⟩
      refine ⟨.inr ⟨_,rfl,zm (zY rfl rfl (by simp -dsimp [ze,zc,bm,lf,ct]<;>with_reducible rfl))⟩,?_⟩
      refine ⟨.inl (by kernel_rfl),?_⟩
      exact True.intro
     case' s2u3=>
      iterate 2 refine ⟨.inl (by kernel_rfl),?_⟩
      refine ⟨.inr ⟨_,_,rfl,rfl,zI (zfz (d:=27) (ρ:=[(1000000002,1000000002),(1000000003,1000000003),(1000000004,1000000004),(1000000005,25)]) (t:=7) (hR:=cU) (hp:=rfl) (hd:=rfl) (hdk:=rfl) (hc:=by simp -dsimp [ze,zc,bm,lf,ct]<;>(first|done|rfl|exact ⟨rfl,rfl⟩|exact ⟨rfl,rfl,rfl⟩)) (hx:=by simp -dsimp [ze,zc,bm,lf,ct]<;>with_reducible rfl) (ho:=by simp -dsimp [ze,zc,bm,lf,ct]) (hh:=by simp -dsimp [ze,zc,bm,lf,ct]) (hb:=by simp -dsimp [ze,zc,bm,lf,ct]) (h1:=by simp -dsimp [ze,zc,bm,lf,ct]<;>with_reducible rfl) (hv:=by simp -dsimp [ze,zc,bm,lf,ct]<;>with_reducible rfl) (hfix:= ?hf7k2u3)) (by simp -dsimp [ze,zQ,zao,zc,bm,lf,ct]<;>with_reducible rfl)⟩,?_⟩
      rotate_left
      exact True.intro
     case v3u3=>
      iterate 8 refine ⟨.inl (by kernel_rfl),?_⟩
      exact True.intro
     case s3u3=>
      iterate 3 refine ⟨.inl (by kernel_rfl),?_⟩
      exact True.intro
     case s1u3=>simp -dsimp [ze,Av.ids,Ow.ids,Cl.ids,zc,bm,lf,ct]
     case s2u3=>simp -dsimp [ze,Av.ids,Cl.ids,zc,bm,lf,ct]
     case hoku3=>kernel_rfl
     refine ⟨rfl,?_⟩
     (repeat' (first|(with_reducible first|refine zj (fun _=>?_) (fun _=>?_)|refine zi (fun _=>?_) (fun _=>?_)|refine zk zb (by kernel_rfl) ?_|exact za rfl)|(simp -dsimp [hw])));(all_goals try with_reducible refine za ?_)
     refine hK _ (i+1) ?_ (by omega) (by omega)
     rw[←hR2,←hV2]
     unfold zgc
     rw[←hX]
     exact Weak.same (by simp -dsimp) (by simp -dsimp) (by first|rfl|(simp [zg,Av.ids,Ow.ids,Cl.ids,Go.Smd.keys];done))
  ·have hi2:i=k.es.length:=by omega
   rw[PK.take_all (by omega)]
   (repeat' (first|(with_reducible first|refine zj (fun _=>?_) (fun _=>?_)|refine zi (fun _=>?_) (fun _=>?_)|refine zk zb (by kernel_rfl) ?_|exact za rfl)|(simp -dsimp [b1,hlt])));(all_goals try with_reducible refine za ?_)
   exact ⟨rfl,rfl⟩
noncomputable abbrev lsS (s:PS):List (List EV):=s.list.map fun w=>w.map cE
theorem zoF (A:List EV):zal (A.map zX)= .sl tPE (A.map eD):=by simp only [zal,List.map_map];rfl
theorem zlm {A:List EV}(h:∀e∈A,GoodE e):∀x∈A.map zX,ZR x:=fun x hx=>by
 obtain ⟨y,hy,rfl⟩:=List.mem_map.1 hx
 exact (h y hy).f.le
theorem zui (A B:List EV)(hl:(A.length+B.length)*32≤140737488351232)(hA:∀e∈A,GoodE e)(hB:∀e∈B,GoodE e)(sA:zaQ A)(sB:zaQ B):
  ACalls prog 150 [.c (.d (.pt [.sl tPE (A.map eD)])),.c (.d (.pt [.sl tPE (B.map eD)]))] (fun r=>r= .c (.d (.pt [.sl tPE ((A.filter fun e=> !zah e B).map eD)]))):=by
 have h:=ziI (A.map zX) (B.map zX) (by simpa using hl) (zlm hA) (zlm hB)
 rw[zmG _ A B rfl hA hB sA sB,zoF,zoF,zoF] at h
 exact h
theorem zst (a b:List (List EV))(hl:(a.length+b.length)*24≤140737488351232):ACalls prog 31 [.c (.d (zU a)),.c (.d (zU b))] (fun r=>r= .c (.d (zU (a++b)))):=by
 have b1:a.length≤9223372036854775807:=by omega
 have b2:b.length≤9223372036854775807:=by omega
 have b3:a.length*24≤140737488351232:=by omega
 refine zf [] func31 (by kernel_rfl) rfl ntmps31 results31 (Nat.le_of_ble_eq_true (by kernel_rfl)) ?_;intro hok w0 S0
 clear hok
 (repeat' (first|(with_reducible first|refine zj (fun _=>?_) (fun _=>?_)|refine zi (fun _=>?_) (fun _=>?_)|refine zk zb (by kernel_rfl) ?_|exact za rfl)|(simp -dsimp [b1,b2,b3,hl])));(all_goals try with_reducible refine za ?_)
 all_goals simp [zU]
end Go.Smd
end
