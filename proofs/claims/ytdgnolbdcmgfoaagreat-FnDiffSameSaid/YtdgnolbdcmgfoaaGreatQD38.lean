/- Part 38. -/
import Derived.Test.YtdgnolbdcmgfoaaGreatQD37
import Derived.Test.YtdgnolbdcmgfoaaGreatQD32
set_option linter.unusedVariables false
set_option linter.unusedSimpArgs false
set_option maxRecDepth 100000
set_option maxHeartbeats 8000000
section
namespace Go.Smd
open Go.RowKit Go.Proofs Go.Proofs.Tryz
abbrev zeN:Ow:=.clo (.fn 146) [.own 1000000002 0]
theorem zsl (g m cap ver:Nat)(R:List (List D))(p:List EV)(e:EV)(hp:∀x∈p++ [e],GoodE x)(hm:(p.map eD).length=m)(hroom:m+1≤cap)(hm2:(m+1)*168≤140737488351232)(hb:(R.length+1)*24≤140737488351232):
  AProc prog 226 [leA (zX e),.c (.own 1000000000 0),.c (.own 1000000001 0)]
   [(1000000000,.cells [.fn 1000000004] tFP),(1000000001,.cells [.d (.v (.slice (some ⟨g,0,none⟩) m cap))] tLP),(1000000002,.cells [.gs 1000000003 ver] zdr),(1000000003,.arr ver tSP R),(1000000004,zeN),(1000000005,.clo (.pin (.slice (some ⟨g,0,none⟩) m cap) tPE (p.map eD)) [])]
   (fun r own'=>r= .tup []∧own'= [(1000000005,.clo (.pin (.slice (some ⟨g,0,none⟩) m cap) tPE (p.map eD)) []),(3,.cells (cls (eD e)) tPE),(7,.arr 0 tPE [eD e]),(6006,.arr 0 tSP [[z9 ((p++ [e]).map cE)]]),(1000000000,.cells [.fn 1000000004] tFP),(1000000001,.cells [.d (.v (.slice (some ⟨g,0,none⟩) m cap))] tLP),
    (1000000002,.cells [.gs 1000000003 (ver+1)] zdr),(1000000003,.arr (ver+1) tSP (R++ [[z9 ((p++ [e]).map cE)]])),(1000000004,zeN)]):=by
 have hbm:(m+1)*32≤140737488351232:=by omega
 have hpl:(p++ [e]).length=m+1:=by rw[List.length_append,←hm];simp
 have hc:=zv2 (.slice (some ⟨g,0,none⟩) (m+1) cap) ver R (p++ [e]) hp (by rw[hpl];omega) hb
 have he1:(p++ [e]).map eD=p.map eD++ [eD e]:=by simp
 rw[he1] at hc
 generalize (p++ [e]).map cE=pq at hc ⊢
 obtain ⟨e0,e1,e2,e3,he,he'⟩:=zbl (zX e)
 have he:eD e= [e0,e1,e2,e3]:=he
 rw[he] at hc
 rw[he',he]
 generalize p.map eD=X at hm hc ⊢
 have lf:prog.lay tFP=some (1,false):=by kernel_rfl
 refine zcX [] func226 (by kernel_rfl) rfl ntmps226 results226 (Nat.le_of_ble_eq_true (by kernel_rfl)) ?_;intro hok w0 S0 hpin
 (repeat' (first|(with_reducible first|refine zj (fun _=>?_) (fun _=>?_)|refine zi (fun _=>?_) (fun _=>?_)|refine zk zb (by kernel_rfl) ?_|exact za rfl)|(simp -dsimp)));(all_goals try with_reducible refine za ?_)
 refine zsk ?_
 refine Zz zb [[],[],[],[2],[1,2,3],[0,1,2,3,4]] [0,1,2,3,4,5] [3,4,5] [([],⟨[(4,?m4u1),(5,?m5u1),(6,?m6u1),(7,?m7u1),(8,?m8u1),(9,?m9u1)],?bu1,?o0u1⟩),([3],⟨[(4,?m4u1),(5,?m5u1),(6,?m6u1),(7,?m7u1),(8,?m8u1),(9,?m9u1)],?bu1,?o1u1⟩),([3,4],⟨[(4,?m4u1),(5,?m5u1),(6,?m6u1),(7,?m7u1),(8,?m8u1),(9,?m9u1)],?bu1,?o2u1⟩),([3,4,5],⟨[(4,?m4u1),(5,?m5u1),(6,?m6u1),(7,?m7u1),(8,?m8u1),(9,?m9u1)],?bu1,?o3u1⟩)] ?hoku1 rfl rfl ?hbu1 ?hou1 ?hstu1 ?hku1
 case' hbu1=>rfl
 case' hou1=>rfl
 case' hstu1=>refine ⟨⟨?v0u1,?s0u1⟩,⟨⟨?v1u1,?s1u1⟩,⟨⟨?v2u1,?s2u1⟩,⟨⟨?v3u1,?s3u1⟩,True.intro⟩⟩⟩⟩
 case v0u1=>
  iterate 3 refine ⟨.inr ⟨_,rfl,zm (zY rfl rfl (by simp -dsimp [ze,zc,hb,hbm,lf]<;>with_reducible rfl))⟩,?_⟩
  iterate 3 refine ⟨.inl (by kernel_rfl),?_⟩
  exact True.intro
 case s0u1=>
  refine ⟨.inr ⟨_,_,rfl,rfl,zI (zaK (hdk:=rfl) (hW:=rfl) (hq:=by simp -dsimp [ze,zc,hb,hbm,lf]<;>(first|done|rfl|exact ⟨rfl,rfl⟩|exact ⟨rfl,rfl,rfl⟩)) (hoo:=rfl) (hv:=by simp -dsimp [ze,zc,hb,hbm,lf]<;>with_reducible rfl)) (by simp -dsimp [ze,zQ,zao,zc,hb,hbm,lf]<;>with_reducible rfl)⟩,?_⟩
  iterate 2 refine ⟨.inl (by kernel_rfl),?_⟩
  exact True.intro
 case v1u1=>
  iterate 2 refine ⟨.inr ⟨_,rfl,zm (zY rfl rfl (by simp -dsimp [ze,zc,hb,hbm,lf]<;>with_reducible rfl))⟩,?_⟩
  iterate 4 refine ⟨.inl (by kernel_rfl),?_⟩
  exact True.intro
 case' s1u1=>
  refine ⟨.inl (by kernel_rfl),?_⟩
  refine ⟨.inr ⟨_,_,rfl,rfl,zI (zmC (n:=999) (q:=1000000005) ⟨by decide,by decide,by simp -dsimp [ze,zc,hb,hbm,lf]⟩ (hop:=rfl) (hd:=rfl) (hdk:=rfl) ⟨by decide,by simp -dsimp [ze,zc,hb,hbm,lf]⟩ (hT:=by kernel_rfl) (hE:=by kernel_rfl) (hn:=by first|rfl|kernel_rfl) (hx:=by simp -dsimp [ze,zc,hb,hbm,lf]<;>(first|done|rfl|exact ⟨rfl,rfl⟩|exact ⟨rfl,rfl,rfl⟩|exact ⟨⟨rfl,rfl,rfl⟩,rfl,rfl⟩)) (hzv:=by simp -dsimp [ze,zc,hb,hbm,lf]<;>(first|done|rfl|exact ⟨rfl,rfl⟩|exact ⟨rfl,rfl,rfl⟩|exact ⟨⟨rfl,rfl,rfl⟩,rfl,rfl⟩)) (hr:=by simp -dsimp [ze,zc,hb,hbm,lf]<;>(first|done|rfl|exact ⟨rfl,rfl⟩|exact ⟨rfl,rfl,rfl⟩|exact ⟨⟨rfl,rfl,rfl⟩,rfl,rfl⟩)) (hq:=by first|rfl|(simp -dsimp [ze,zc,hb,hbm,lf]<;>(first|done|rfl|exact ⟨rfl,rfl⟩|exact ⟨rfl,rfl,rfl⟩|exact ⟨⟨rfl,rfl,rfl⟩,rfl,rfl⟩))) (hm:=by first|assumption|rfl|simp;done) (hroom:=by first|assumption|omega) (hb:=by simp -dsimp [ze,zc,hb,hbm,lf]<;>first|done|assumption|omega) (hfree:= ?hf4k1u1) (hfo:=by simp -dsimp [ze,Av.ids,Ow.ids,Cl.ids,zc,hb,hbm,lf]) (ho:=by with_reducible rfl) (hv:=by simp -dsimp [ze,zc,hb,hbm,lf]<;>with_reducible rfl)) (by simp -dsimp [ze,zQ,zao,zbt,zc,hb,hbm,lf]<;>with_reducible rfl)⟩,?_⟩
  rotate_left
  refine ⟨.inl (by kernel_rfl),?_⟩
  exact True.intro
 case v2u1=>
  refine ⟨.inr ⟨_,rfl,zm (zY rfl rfl (by simp -dsimp [ze,zc,hb,hbm,lf]<;>with_reducible rfl))⟩,?_⟩
  iterate 5 refine ⟨.inl (by kernel_rfl),?_⟩
  exact True.intro
 case' s2u1=>
  iterate 2 refine ⟨.inl (by kernel_rfl),?_⟩
  refine ⟨.inr ⟨_,_,rfl,rfl,zI (zfz (d:=9) (ρ:=[(1000000000,1000000002),(1000000001,1000000003),(1000000002,8)]) (t:=5) (hR:=hc) (hp:=rfl) (hd:=rfl) (hdk:=rfl) (hc:=by simp -dsimp [ze,zc,hb,hbm,lf]<;>(first|done|rfl|exact ⟨rfl,rfl⟩|exact ⟨rfl,rfl,rfl⟩)) (hx:=by simp -dsimp [ze,zc,hb,hbm,lf]<;>with_reducible rfl) (ho:=by simp -dsimp [ze,zc,hb,hbm,lf]) (hh:=by simp -dsimp [ze,zc,hb,hbm,lf]) (hb:=by simp -dsimp [ze,zc,hb,hbm,lf]) (h1:=by simp -dsimp [ze,zc,hb,hbm,lf]<;>with_reducible rfl) (hv:=by simp -dsimp [ze,zc,hb,hbm,lf]<;>with_reducible rfl) (hfix:= ?hf5k2u1)) (by simp -dsimp [ze,zQ,zao,zc,hb,hbm,lf]<;>with_reducible rfl)⟩,?_⟩
  rotate_left
  exact True.intro
 case v3u1=>
  iterate 6 refine ⟨.inl (by kernel_rfl),?_⟩
  exact True.intro
 case s3u1=>
  iterate 3 refine ⟨.inl (by kernel_rfl),?_⟩
  exact True.intro
 case s1u1=>simp -dsimp [ze,Av.ids,Ow.ids,Cl.ids,zc,hb,hbm,lf]
 case s2u1=>simp -dsimp [ze,Av.ids,Cl.ids,zc,hb,hbm,lf]
 case hoku1=>kernel_rfl
 refine ⟨rfl,_,Weak.pinPop (q:=8) (d:=1000000005) (hid:=by simp -dsimp [ze,zc,hb,hbm,lf]<;>with_reducible rfl) (hm:=by assumption) (hd:=by simp -dsimp [ze,zc,hb,hbm,lf]) (ht:=by simp -dsimp [ze,Av.ids,Ow.ids,Cl.ids,zc,hb,hbm,lf]) (hqo:=by simp -dsimp [ze,Av.ids,Ow.ids,Cl.ids,zc,hb,hbm,lf]) (hk:=fun o0 h=>hpin 1000000005 _ _ _ rfl o0 h),?_⟩
 (repeat' (first|(with_reducible first|refine zj (fun _=>?_) (fun _=>?_)|refine zi (fun _=>?_) (fun _=>?_)|refine zk zb (by kernel_rfl) ?_|exact za rfl)|(simp -dsimp)));(all_goals try with_reducible refine za ?_)
 exact ⟨rfl,rfl⟩
theorem zsm (g m cap ver:Nat)(R:List (List D))(p:List EV)(e:EV)(hp:∀x∈p++ [e],GoodE x)(hm:(p.map eD).length=m)(hcap:cap<m+1)(hm2:(m+1)*168≤140737488351232)(hb:(R.length+1)*24≤140737488351232):
  AProc prog 226 [leA (zX e),.c (.own 1000000000 0),.c (.own 1000000001 0)]
   [(1000000000,.cells [.fn 1000000004] tFP),(1000000001,.cells [.d (.v (.slice (some ⟨g,0,none⟩) m cap))] tLP),(1000000002,.cells [.gs 1000000003 ver] zdr),(1000000003,.arr ver tSP R),(1000000004,zeN),(1000000005,.clo (.pin (.slice (some ⟨g,0,none⟩) m cap) tPE (p.map eD)) [])]
   (fun r own'=>r= .tup []∧own'= [(3,.cells (cls (eD e)) tPE),(7,.arr 0 tPE [eD e]),(8,.arr 1 tPE (p.map eD++ [eD e])),(6006,.arr 0 tSP [[z9 ((p++ [e]).map cE)]]),(1000000000,.cells [.fn 1000000004] tFP),(1000000001,.cells [.d (.v (.slice (some ⟨g,0,none⟩) m cap))] tLP),
    (1000000002,.cells [.gs 1000000003 (ver+1)] zdr),(1000000003,.arr (ver+1) tSP (R++ [[z9 ((p++ [e]).map cE)]])),(1000000004,zeN),(1000000005,.clo (.pin (.slice (some ⟨g,0,none⟩) m cap) tPE (p.map eD)) [])]):=by
 have hfull:∀g' cap',Value.slice (some ⟨g,0,none⟩) m cap= .slice (some ⟨g',0,none⟩) m cap'→cap'<m+1:=fun g' cap' h=>by injection h with _ _ h3;omega
 have hbm:(m+1)*32≤140737488351232:=by omega
 have hpl:(p++ [e]).length=m+1:=by rw[List.length_append,←hm];simp
 have hc:=zv1 1 ver R (p++ [e]) hp (by rw[hpl];omega) hb
 have he1:(p++ [e]).map eD=p.map eD++ [eD e]:=by simp
 rw[he1] at hc
 generalize (p++ [e]).map cE=pq at hc ⊢
 obtain ⟨e0,e1,e2,e3,he,he'⟩:=zbl (zX e)
 have he:eD e= [e0,e1,e2,e3]:=he
 rw[he] at hc
 rw[he',he]
 generalize p.map eD=X at hm hc ⊢
 have lf:prog.lay tFP=some (1,false):=by kernel_rfl
 refine zcX [] func226 (by kernel_rfl) rfl ntmps226 results226 (Nat.le_of_ble_eq_true (by kernel_rfl)) ?_;intro hok w0 S0 hpin
 (repeat' (first|(with_reducible first|refine zj (fun _=>?_) (fun _=>?_)|refine zi (fun _=>?_) (fun _=>?_)|refine zk zb (by kernel_rfl) ?_|exact za rfl)|(simp -dsimp)));(all_goals try with_reducible refine za ?_)
 refine zcB ?_
 refine Zz zb [[],[],[],[2],[1,2,3],[0,1,2,3,4]] [0,1,2,3,4,5] [3,4,5] [([],⟨[(4,?m4u2),(5,?m5u2),(6,?m6u2),(7,?m7u2),(8,?m8u2),(9,?m9u2)],?bu2,?o0u2⟩),([3],⟨[(4,?m4u2),(5,?m5u2),(6,?m6u2),(7,?m7u2),(8,?m8u2),(9,?m9u2)],?bu2,?o1u2⟩),([3,4],⟨[(4,?m4u2),(5,?m5u2),(6,?m6u2),(7,?m7u2),(8,?m8u2),(9,?m9u2)],?bu2,?o2u2⟩),([3,4,5],⟨[(4,?m4u2),(5,?m5u2),(6,?m6u2),(7,?m7u2),(8,?m8u2),(9,?m9u2)],?bu2,?o3u2⟩)] ?hoku2 rfl rfl ?hbu2 ?hou2 ?hstu2 ?hku2
 case' hbu2=>rfl
 case' hou2=>rfl
 case' hstu2=>refine ⟨⟨?v0u2,?s0u2⟩,⟨⟨?v1u2,?s1u2⟩,⟨⟨?v2u2,?s2u2⟩,⟨⟨?v3u2,?s3u2⟩,True.intro⟩⟩⟩⟩
 case v0u2=>
  iterate 3 refine ⟨.inr ⟨_,rfl,zm (zY rfl rfl (by simp -dsimp [ze,zc,hb,hbm,lf]<;>with_reducible rfl))⟩,?_⟩
  iterate 3 refine ⟨.inl (by kernel_rfl),?_⟩
  exact True.intro
 case s0u2=>
  refine ⟨.inr ⟨_,_,rfl,rfl,zI (zaK (hdk:=rfl) (hW:=rfl) (hq:=by simp -dsimp [ze,zc,hb,hbm,lf]<;>(first|done|rfl|exact ⟨rfl,rfl⟩|exact ⟨rfl,rfl,rfl⟩)) (hoo:=rfl) (hv:=by simp -dsimp [ze,zc,hb,hbm,lf]<;>with_reducible rfl)) (by simp -dsimp [ze,zQ,zao,zc,hb,hbm,lf]<;>with_reducible rfl)⟩,?_⟩
  iterate 2 refine ⟨.inl (by kernel_rfl),?_⟩
  exact True.intro
 case v1u2=>
  iterate 2 refine ⟨.inr ⟨_,rfl,zm (zY rfl rfl (by simp -dsimp [ze,zc,hb,hbm,lf]<;>with_reducible rfl))⟩,?_⟩
  iterate 4 refine ⟨.inl (by kernel_rfl),?_⟩
  exact True.intro
 case' s1u2=>
  refine ⟨.inl (by kernel_rfl),?_⟩
  refine ⟨.inr ⟨_,_,rfl,rfl,zI (zmD (n:=999) (q:=1000000005) ⟨by decide,by decide,by simp -dsimp [ze,zc,hb,hbm,lf]⟩ (hop:=rfl) (hd:=rfl) (hdk:=rfl) ⟨by decide,by simp -dsimp [ze,zc,hb,hbm,lf]⟩ (hT:=by kernel_rfl) (hE:=by kernel_rfl) (hn:=by first|rfl|kernel_rfl) (hx:=by simp -dsimp [ze,zc,hb,hbm,lf]<;>(first|done|rfl|exact ⟨rfl,rfl⟩|exact ⟨rfl,rfl,rfl⟩|exact ⟨⟨rfl,rfl,rfl⟩,rfl,rfl⟩)) (hzv:=by simp -dsimp [ze,zc,hb,hbm,lf]<;>(first|done|rfl|exact ⟨rfl,rfl⟩|exact ⟨rfl,rfl,rfl⟩|exact ⟨⟨rfl,rfl,rfl⟩,rfl,rfl⟩)) (hr:=by simp -dsimp [ze,zc,hb,hbm,lf]<;>(first|done|rfl|exact ⟨rfl,rfl⟩|exact ⟨rfl,rfl,rfl⟩|exact ⟨⟨rfl,rfl,rfl⟩,rfl,rfl⟩)) (hq:=by first|rfl|(simp -dsimp [ze,zc,hb,hbm,lf]<;>(first|done|rfl|exact ⟨rfl,rfl⟩|exact ⟨rfl,rfl,rfl⟩|exact ⟨⟨rfl,rfl,rfl⟩,rfl,rfl⟩))) (hm:=by first|assumption|rfl|simp;done) (hfull:=by first|assumption|omega) (hb:=by simp -dsimp [ze,zc,hb,hbm,lf]<;>first|done|assumption|omega) (hfree:= ?hf4k1u2) (hfo:=by simp -dsimp [ze,Av.ids,Ow.ids,Cl.ids,zc,hb,hbm,lf]) (ho:=by with_reducible rfl) (hv:=by simp -dsimp [ze,zc,hb,hbm,lf]<;>with_reducible rfl)) (by simp -dsimp [ze,zQ,zao,zbt,zc,hb,hbm,lf]<;>with_reducible rfl)⟩,?_⟩
  rotate_left
  refine ⟨.inl (by kernel_rfl),?_⟩
  exact True.intro
 case v2u2=>
  refine ⟨.inr ⟨_,rfl,zm (zY rfl rfl (by simp -dsimp [ze,zc,hb,hbm,lf]<;>with_reducible rfl))⟩,?_⟩
  iterate 5 refine ⟨.inl (by kernel_rfl),?_⟩
  exact True.intro
 case' s2u2=>
  iterate 2 refine ⟨.inl (by kernel_rfl),?_⟩
  refine ⟨.inr ⟨_,_,rfl,rfl,zI (zfz (d:=9) (ρ:=[(1000000000,1000000002),(1000000001,1000000003),(1000000002,8)]) (t:=5) (hR:=hc) (hp:=rfl) (hd:=rfl) (hdk:=rfl) (hc:=by simp -dsimp [ze,zc,hb,hbm,lf]<;>(first|done|rfl|exact ⟨rfl,rfl⟩|exact ⟨rfl,rfl,rfl⟩)) (hx:=by simp -dsimp [ze,zc,hb,hbm,lf]<;>with_reducible rfl) (ho:=by simp -dsimp [ze,zc,hb,hbm,lf]) (hh:=by simp -dsimp [ze,zc,hb,hbm,lf]) (hb:=by simp -dsimp [ze,zc,hb,hbm,lf]) (h1:=by simp -dsimp [ze,zc,hb,hbm,lf]<;>with_reducible rfl) (hv:=by simp -dsimp [ze,zc,hb,hbm,lf]<;>with_reducible rfl) (hfix:= ?hf5k2u2)) (by simp -dsimp [ze,zQ,zao,zc,hb,hbm,lf]<;>with_reducible rfl)⟩,?_⟩
  rotate_left
  exact True.intro
 case v3u2=>
  iterate 6 refine ⟨.inl (by kernel_rfl),?_⟩
  exact True.intro
 case s3u2=>
  iterate 3 refine ⟨.inl (by kernel_rfl),?_⟩
  exact True.intro
 case s1u2=>simp -dsimp [ze,Av.ids,Ow.ids,Cl.ids,zc,hb,hbm,lf]
 case s2u2=>simp -dsimp [ze,Av.ids,Cl.ids,zc,hb,hbm,lf]
 case hoku2=>kernel_rfl
 refine ⟨rfl,?_⟩
 (repeat' (first|(with_reducible first|refine zj (fun _=>?_) (fun _=>?_)|refine zi (fun _=>?_) (fun _=>?_)|refine zk zb (by kernel_rfl) ?_|exact za rfl)|(simp -dsimp)));(all_goals try with_reducible refine za ?_)
 exact ⟨rfl,rfl⟩
theorem zuf (ver:Nat)(R:List (List D))(e:EV)(hp:∀x∈ [e],GoodE x)(hb:(R.length+1)*24≤140737488351232):
  AProc prog 226 [leA (zX e),.c (.own 1000000000 0),.c (.own 1000000001 0)]
   [(1000000000,.cells [.fn 1000000004] tFP),(1000000001,.cells [.d (.v (.slice none 0 0))] tLP),(1000000002,.cells [.gs 1000000003 ver] zdr),(1000000003,.arr ver tSP R),(1000000004,zeN),(1000000005,.clo (.pin (.slice none 0 0) tPE []) [])]
   (fun r own'=>r= .tup []∧own'= [(3,.cells (cls (eD e)) tPE),(7,.arr 0 tPE [eD e]),(8,.arr 1 tPE [eD e]),(6006,.arr 0 tSP [[z9 ([e].map cE)]]),(1000000000,.cells [.fn 1000000004] tFP),(1000000001,.cells [.d (.v (.slice none 0 0))] tLP),
    (1000000002,.cells [.gs 1000000003 (ver+1)] zdr),(1000000003,.arr (ver+1) tSP (R++ [[z9 ([e].map cE)]])),(1000000004,zeN),(1000000005,.clo (.pin (.slice none 0 0) tPE []) [])]):=by
 have hc:=zv1 1 ver R [e] hp (by simp) hb
 have he1: [e].map eD= [eD e]:=rfl
 rw[he1] at hc
 generalize [e].map cE=pq at hc ⊢
 obtain ⟨e0,e1,e2,e3,he,he'⟩:=zbl (zX e)
 have he:eD e= [e0,e1,e2,e3]:=he
 rw[he] at hc
 rw[he',he]
 have lf:prog.lay tFP=some (1,false):=by kernel_rfl
 refine zcX [] func226 (by kernel_rfl) rfl ntmps226 results226 (Nat.le_of_ble_eq_true (by kernel_rfl)) ?_;intro hok w0 S0 hpin
 (repeat' (first|(with_reducible first|refine zj (fun _=>?_) (fun _=>?_)|refine zi (fun _=>?_) (fun _=>?_)|refine zk zb (by kernel_rfl) ?_|exact za rfl)|(simp -dsimp)));(all_goals try with_reducible refine za ?_)
 refine zcB ?_
 refine Zz zb [[],[],[],[2],[1,2,3],[0,1,2,3,4]] [0,1,2,3,4,5] [3,4,5] [([],⟨[(4,?m4u3),(5,?m5u3),(6,?m6u3),(7,?m7u3),(8,?m8u3),(9,?m9u3)],?bu3,?o0u3⟩),([3],⟨[(4,?m4u3),(5,?m5u3),(6,?m6u3),(7,?m7u3),(8,?m8u3),(9,?m9u3)],?bu3,?o1u3⟩),([3,4],⟨[(4,?m4u3),(5,?m5u3),(6,?m6u3),(7,?m7u3),(8,?m8u3),(9,?m9u3)],?bu3,?o2u3⟩),([3,4,5],⟨[(4,?m4u3),(5,?m5u3),(6,?m6u3),(7,?m7u3),(8,?m8u3),(9,?m9u3)],?bu3,?o3u3⟩)] ?hoku3 rfl rfl ?hbu3 ?hou3 ?hstu3 ?hku3
 case' hbu3=>rfl
 case' hou3=>rfl
 case' hstu3=>refine ⟨⟨?v0u3,?s0u3⟩,⟨⟨?v1u3,?s1u3⟩,⟨⟨?v2u3,?s2u3⟩,⟨⟨?v3u3,?s3u3⟩,True.intro⟩⟩⟩⟩
 case v0u3=>
  iterate 3 refine ⟨.inr ⟨_,rfl,zm (zY rfl rfl (by simp -dsimp [ze,zc,hb,lf]<;>with_reducible rfl))⟩,?_⟩
  iterate 3 refine ⟨.inl (by kernel_rfl),?_⟩
  exact True.intro
 case s0u3=>
  refine ⟨.inr ⟨_,_,rfl,rfl,zI (zaK (hdk:=rfl) (hW:=rfl) (hq:=by simp -dsimp [ze,zc,hb,lf]<;>(first|done|rfl|exact ⟨rfl,rfl⟩|exact ⟨rfl,rfl,rfl⟩)) (hoo:=rfl) (hv:=by simp -dsimp [ze,zc,hb,lf]<;>with_reducible rfl)) (by simp -dsimp [ze,zQ,zao,zc,hb,lf]<;>with_reducible rfl)⟩,?_⟩
  iterate 2 refine ⟨.inl (by kernel_rfl),?_⟩
  exact True.intro
 case v1u3=>
  iterate 2 refine ⟨.inr ⟨_,rfl,zm (zY rfl rfl (by simp -dsimp [ze,zc,hb,lf]<;>with_reducible rfl))⟩,?_⟩
  iterate 4 refine ⟨.inl (by kernel_rfl),?_⟩
  exact True.intro
 case s1u3=>
  refine ⟨.inl (by kernel_rfl),?_⟩
  refine ⟨.inr ⟨_,_,rfl,rfl,zI (zaK (hdk:=rfl) (hW:=rfl) (hq:=by simp -dsimp [ze,zc,hb,lf]<;>(first|done|rfl|exact ⟨rfl,rfl⟩|exact ⟨rfl,rfl,rfl⟩)) (hoo:=rfl) (hv:=by simp -dsimp [ze,zc,hb,lf]<;>with_reducible rfl)) (by simp -dsimp [ze,zQ,zao,zc,hb,lf]<;>with_reducible rfl)⟩,?_⟩
  refine ⟨.inl (by kernel_rfl),?_⟩
  exact True.intro
 case v2u3=>
  refine ⟨.inr ⟨_,rfl,zm (zY rfl rfl (by simp -dsimp [ze,zc,hb,lf]<;>with_reducible rfl))⟩,?_⟩
  iterate 5 refine ⟨.inl (by kernel_rfl),?_⟩
  exact True.intro
 case' s2u3=>
  iterate 2 refine ⟨.inl (by kernel_rfl),?_⟩
  refine ⟨.inr ⟨_,_,rfl,rfl,zI (zfz (d:=9) (ρ:=[(1000000000,1000000002),(1000000001,1000000003),(1000000002,8)]) (t:=5) (hR:=hc) (hp:=rfl) (hd:=rfl) (hdk:=rfl) (hc:=by simp -dsimp [ze,zc,hb,lf]<;>(first|done|rfl|exact ⟨rfl,rfl⟩|exact ⟨rfl,rfl,rfl⟩)) (hx:=by simp -dsimp [ze,zc,hb,lf]<;>with_reducible rfl) (ho:=by simp -dsimp [ze,zc,hb,lf]) (hh:=by simp -dsimp [ze,zc,hb,lf]) (hb:=by simp -dsimp [ze,zc,hb,lf]) (h1:=by simp -dsimp [ze,zc,hb,lf]<;>with_reducible rfl) (hv:=by simp -dsimp [ze,zc,hb,lf]<;>with_reducible rfl) (hfix:= ?hf5k2u3)) (by simp -dsimp [ze,zQ,zao,zc,hb,lf]<;>with_reducible rfl)⟩,?_⟩
  rotate_left
  exact True.intro
 case v3u3=>
  iterate 6 refine ⟨.inl (by kernel_rfl),?_⟩
  exact True.intro
 case s3u3=>
  iterate 3 refine ⟨.inl (by kernel_rfl),?_⟩
  exact True.intro
 case s2u3=>simp -dsimp [ze,Av.ids,Cl.ids,zc,hb,lf]
 case hoku3=>kernel_rfl
 refine ⟨rfl,?_⟩
 (repeat' (first|(with_reducible first|refine zj (fun _=>?_) (fun _=>?_)|refine zi (fun _=>?_) (fun _=>?_)|refine zk zb (by kernel_rfl) ?_|exact za rfl)|(simp -dsimp)));(all_goals try with_reducible refine za ?_)
 exact ⟨rfl,rfl⟩
abbrev zwX:Ow:=.clo (.fn 226) [.own 1000000000 0,.own 1000000001 0]
noncomputable abbrev zeO (p:List EV)(A:List EV):List (List D):=A.map fun e=>[z9 ((p++ [e]).map cE)]
noncomputable abbrev zll (v:Value)(p:List EV)(ver:Nat)(R:List (List D)):List (Nat×Ow):=
 [(1000000000,.cells [.fn 1000000004] tFP),(1000000001,.cells [.d (.v v)] tLP),(1000000002,.cells [.gs 1000000003 ver] zdr),(1000000003,.arr ver tSP R),(1000000004,zeN),(1000000005,.clo (.pin v tPE (p.map eD)) []),(1000000006,zwX)]
theorem zsn (v:Value)(ver:Nat)(R:List (List D))(p A:List EV)(hv:IsPin v p.length)(hp:∀x∈p,GoodE x)(hA:∀x∈A,GoodE x)(hm:(p.length+1)*168≤140737488351232)(hl:A.length≤4000000000000)(hb:(R.length+A.length)*24≤140737488351232):
  AProc prog 225 [.c (.d (.pt [.sl tPE (A.map eD)])),.c (.fn 1000000006)] (zll v p ver R)
   (fun r own'=>r= .tup []∧own'=zll v p (ver+A.length) (R++zeO p A)):=by
 have b1:A.length≤9223372036854775807:=by omega
 unfold zll
 refine zaj [] func225 (by kernel_rfl) rfl ntmps225 results225 (Nat.le_of_ble_eq_true (by kernel_rfl)) ?_;intro hok w0 S0
 (repeat' (first|(with_reducible first|refine zj (fun _=>?_) (fun _=>?_)|refine zi (fun _=>?_) (fun _=>?_)|refine zk zb (by kernel_rfl) ?_|exact za rfl)|(simp -dsimp [b1])));(all_goals try with_reducible refine za ?_)
 refine zF (fun i:Nat=>⟨[(1,.c (.fn 1000000006)),(9,.c (.d (.sl tPE (A.map eD)))),(10,aI A.length),(11,aI i)],zll v p (ver+i) (R++zeO p (A.take i))⟩) (fun i=>i≤A.length) (fun i=>A.length - i) 0 ?_ (Nat.zero_le _) ?_
 ·simp only [List.take_zero,zeO,List.map_nil,List.append_nil,Nat.add_zero]
  exact Weak.same (by simp -dsimp) (by simp -dsimp) (by first|rfl|(simp [zg,Av.ids,Ow.ids,Cl.ids,Go.Smd.keys];done))
 ·rintro i hi K hK
  by_cases hlt:i<A.length
  ·have hw:IntKind.wrap .i64 ((i:Int)+1)=((i+1:Nat):Int):=by rw[zq]<;>omega
   have hx:∀x∈p++ [A[i]],GoodE x:=fun x hx=>by
    rcases List.mem_append.1 hx with h|h
    ·exact hp x h
    ·rw[List.mem_singleton.1 h];exact hA _ (List.getElem_mem hlt)
   have hlen:(R++zeO p (A.take i)).length=R.length+i:=by simp;omega
   have hbb:((R++zeO p (A.take i)).length+1)*24≤140737488351232:=by omega
   have hnx:R++zeO p (A.take (i+1))=R++zeO p (A.take i)++ [[z9 ((p++ [A[i]]).map cE)]]:=by
    rw[List.take_succ_eq_append_getElem hlt,zeO,List.map_append,List.append_assoc];rfl
   obtain ⟨e0,e1,e2,e3,he,he'⟩:=zbl (zX A[i])
   have he:eD A[i]= [e0,e1,e2,e3]:=he
   rcases id hv with ⟨rfl,h0⟩|⟨g,cap,rfl,hcap⟩
   ·have hp0:p= []:=List.eq_nil_of_length_eq_zero h0
    subst hp0
    have hc:=zuf (ver+i) (R++zeO [] (A.take i)) A[i] hx hbb
    rw[he'] at hc
    simp only [List.nil_append] at hnx hc
    rw[←hnx] at hc
    unfold zll
    rw[he] at hc
    (repeat' (first|(with_reducible first|refine zj (fun _=>?_) (fun _=>?_)|refine zi (fun _=>?_) (fun _=>?_))|((with_reducible apply zcH (ρ:=[(1000000000,1000000000),(1000000001,1000000001),(1000000002,1000000002),(1000000003,1000000003),(1000000004,1000000004),(1000000005,1000000005)]) 7 (hc));(case hc=>simp -dsimp [b1,hlt,hw,he]<;>first|exact ⟨rfl,rfl,rfl⟩|exact ⟨rfl,rfl⟩|done);(case hx=>simp -dsimp [b1,hlt,hw,he]<;>with_reducible rfl);(case ho=>simp -dsimp [b1,hlt,hw,he]);(case hh=>simp -dsimp [b1,hlt,hw,he]);(case hb=>simp -dsimp [b1,hlt,hw,he]))|(with_reducible first|refine zk zb (by kernel_rfl) ?_|exact za rfl)|(simp -dsimp [b1,hlt,hw,he])));(all_goals try with_reducible refine za ?_)
    refine hK _ (i+1) ?_ (by omega) (by omega)
    rw[←Nat.add_assoc]
    exact Weak.same (by simp -dsimp) (by simp -dsimp) (by first|rfl|(simp [zg,Av.ids,Ow.ids,Cl.ids,Go.Smd.keys];done))
   ·have hc0:=zsm g p.length cap (ver+i) (R++zeO p (A.take i)) p A[i] hx (by simp)
    have hc1:=zsl g p.length cap (ver+i) (R++zeO p (A.take i)) p A[i] hx (by simp)
    rw[he',←hnx] at hc0 hc1
    by_cases hr:p.length+1≤cap
    ·have hc:=hc1 hr hm hbb
     unfold zll
     rw[he] at hc
     (repeat' (first|(with_reducible first|refine zj (fun _=>?_) (fun _=>?_)|refine zi (fun _=>?_) (fun _=>?_))|((with_reducible apply zcH (ρ:=[(1000000000,1000000000),(1000000001,1000000001),(1000000002,1000000002),(1000000003,1000000003),(1000000004,1000000004),(1000000005,1000000005)]) 7 (hc));(case hc=>simp -dsimp [b1,hlt,hw,he]<;>first|exact ⟨rfl,rfl,rfl⟩|exact ⟨rfl,rfl⟩|done);(case hx=>simp -dsimp [b1,hlt,hw,he]<;>with_reducible rfl);(case ho=>simp -dsimp [b1,hlt,hw,he]);(case hh=>simp -dsimp [b1,hlt,hw,he]);(case hb=>simp -dsimp [b1,hlt,hw,he]))|(with_reducible first|refine zk zb (by kernel_rfl) ?_|exact za rfl)|(simp -dsimp [b1,hlt,hw,he])));(all_goals try with_reducible refine za ?_)
     refine hK _ (i+1) ?_ (by omega) (by omega)
     rw[←Nat.add_assoc]
     exact Weak.same (by simp -dsimp) (by simp -dsimp) (by first|rfl|(simp [zg,Av.ids,Ow.ids,Cl.ids,Go.Smd.keys];done))
    ·have hc:=hc0 (by omega) hm hbb
     unfold zll
     rw[he] at hc
     (repeat' (first|(with_reducible first|refine zj (fun _=>?_) (fun _=>?_)|refine zi (fun _=>?_) (fun _=>?_))|((with_reducible apply zcH (ρ:=[(1000000000,1000000000),(1000000001,1000000001),(1000000002,1000000002),(1000000003,1000000003),(1000000004,1000000004),(1000000005,1000000005)]) 7 (hc));(case hc=>simp -dsimp [b1,hlt,hw,he]<;>first|exact ⟨rfl,rfl,rfl⟩|exact ⟨rfl,rfl⟩|done);(case hx=>simp -dsimp [b1,hlt,hw,he]<;>with_reducible rfl);(case ho=>simp -dsimp [b1,hlt,hw,he]);(case hh=>simp -dsimp [b1,hlt,hw,he]);(case hb=>simp -dsimp [b1,hlt,hw,he]))|(with_reducible first|refine zk zb (by kernel_rfl) ?_|exact za rfl)|(simp -dsimp [b1,hlt,hw,he])));(all_goals try with_reducible refine za ?_)
     refine hK _ (i+1) ?_ (by omega) (by omega)
     rw[←Nat.add_assoc]
     exact Weak.same (by simp -dsimp) (by simp -dsimp) (by first|rfl|(simp [zg,Av.ids,Ow.ids,Cl.ids,Go.Smd.keys];done))
  ·have hi2:i=A.length:=by omega
   subst hi2
   rw[List.take_of_length_le (Nat.le_refl _)]
   unfold zll
   (repeat' (first|(with_reducible first|refine zj (fun _=>?_) (fun _=>?_)|refine zi (fun _=>?_) (fun _=>?_)|refine zk zb (by kernel_rfl) ?_|exact za rfl)|(simp -dsimp [b1])));(all_goals try with_reducible refine za ?_)
   exact ⟨rfl,rfl⟩
theorem AProc.pre1 {P:Program}{f:FuncId}{xs ys:List D}{xa:List Av}{own:List (Nat×Ow)}{R:Av→List (Nat×Ow)→Prop}(h:AProc P f (.c (.d (.pt xs))::xa) own R):AProc P f (.c (.d (.pt (xs++ys)))::xa) own R:=
 ⟨h.1,fun w E β vs s ha=>h.2 w E β vs s (by
  obtain ⟨v,vs,rfl,h1,ha⟩:=ha.inv
  exact .cons (RepD.pre (show RepD P w _ _ v from h1)) ha)⟩
mutual
def PS.list:PS→List (List EV)
 | .mk ms ks=>ms.map (fun e=>[e])++ks.list
def PK.list:PK→List (List EV)
 | .nil=>[]
 | .cons e s r=>s.list.map (fun q=>e::q)++r.list
end
mutual
def PS.depth:PS→Nat
 | .mk _ ks=>ks.depth+1
def PK.depth:PK→Nat
 | .nil=>0
 | .cons _ s r=>max s.depth r.depth
end
mutual
theorem PS.list_length:∀s:PS,s.list.length=s.size
 | .mk ms ks=>by simp only [PS.list,PS.size,List.length_append,List.length_map,PK.list_length ks]
theorem PK.list_length:∀k:PK,k.list.length=k.size
 | .nil=>by simp only [PK.list,PK.size,List.length_nil]
 | .cons e s r=>by simp only [PK.list,PK.size,List.length_append,List.length_map,PS.list_length s,PK.list_length r]
end
theorem PK.depth_le:∀{k:PK},∀s∈k.ss,s.depth≤k.depth
 | .nil,s,h=>by simp [PK.ss] at h
 | .cons e t r,s,h=>by
  have h2:=PK.depth_le (k:=r)
  simp only [PK.ss] at h
  simp only [PK.depth]
  rcases List.mem_cons.1 h with h|h
  ·rw[h];exact Nat.le_max_left ..
  ·exact Nat.le_trans (h2 s h) (Nat.le_max_right ..)
noncomputable abbrev zcF (p:List EV)(L:List (List EV)):List (List D):=L.map fun q=>[z9 ((p++q).map cE)]
theorem zpT (p A:List EV):zeO p A=zcF p (A.map fun e=>[e]):=by simp [zeO,zcF]
theorem zpU (p:List EV)(e:EV)(L:List (List EV)):zcF p (L.map fun q=>e::q)=zcF (p++ [e]) L:=by simp [zcF]
def PK.take:Nat→PK→PK
 |0,_=>.nil
 |_+1,.nil=>.nil
 |i+1,.cons e s r=>.cons e s (r.take i)
theorem PK.take_zero (k:PK):k.take 0= .nil:=by cases k<;>rfl
theorem PK.take_all:∀{k:PK} {i:Nat},k.es.length≤i→k.take i=k
 | .nil,0,_=>rfl
 | .nil,i+1,_=>rfl
 | .cons e s r,0,h=>by simp [PK.es] at h
 | .cons e s r,i+1,h=>by
  simp only [PK.es,List.length_cons] at h
  simp only [PK.take];rw[PK.take_all (by omega)]
theorem PK.take_list:∀{k:PK} {i:Nat} (h:i<k.es.length) (h':i<k.ss.length),(k.take (i+1)).list=(k.take i).list++(k.ss[i]).list.map (fun q=>k.es[i]::q)
 | .nil,i,h,_=>by simp [PK.es] at h
 | .cons e s r,0,h,h'=>by
  simp only [PK.take,PK.list,PK.ss,PK.es,List.getElem_cons_zero,PK.take_zero,List.append_nil,List.nil_append]
 | .cons e s r,i+1,h,h'=>by
  have h1:i<r.es.length:=by simpa [PK.es] using h
  have h2:i<r.ss.length:=by simpa [PK.ss] using h'
  have ih:=PK.take_list h1 h2
  have e1:(PK.cons e s r).take (i+1+1)= .cons e s (r.take (i+1)):=rfl
  have e2:(PK.cons e s r).take (i+1)= .cons e s (r.take i):=rfl
  rw[e1,e2]
  simp only [PK.list,ih,PK.ss,PK.es,List.getElem_cons_succ,List.append_assoc]
theorem PK.take_size {k:PK}{i:Nat}(h:i<k.es.length)(h':i<k.ss.length):(k.take (i+1)).size=(k.take i).size+(k.ss[i]).size:=by
 have:=congrArg List.length (PK.take_list h h')
 rw[List.length_append,List.length_map,PK.list_length,PK.list_length,PS.list_length] at this
 exact this
theorem PK.take_le:∀(k:PK) (i:Nat),(k.take i).size≤k.size
 |k,0=>by rw[PK.take_zero];simp only [PK.size];omega
 | .nil,i+1=>by simp only [PK.take,PK.size];omega
 | .cons e s r,i+1=>by
  have:=PK.take_le r i
  simp only [PK.take,PK.size];omega
section
variable {P:Program} {σ:St} {d:Option Tmp} {ty:TypeId} {pos:String} {af:Array Edge} {g:Option (Nat×Bool)}
@[simp ↓] theorem zso {T:TypeId}{n:Nat}{xs:Array (Nat×Operand)}:zhb σ ⟨d,.buildSlice T n xs,ty,pos,af,g⟩=none:=_root_.id rfl
end
@[simp] theorem zuL:prog.fulfils 104 271=true:=by kernel_rfl
theorem zhq {l:List (List EV)}(hg:∀p∈l,∀e∈p,GoodE e){q:List EV}(hq:q≠ [])(ho:zli q):(mkP l).has q=true↔∃p∈l,p≠ []∧zbq p q=0:=by
 obtain ⟨n,hn⟩:∃n,n=l.length:=⟨_,rfl⟩
 induction n generalizing l with
 |zero=>
  cases l with
  |cons _ _=>simp at hn
  |nil=>
   obtain ⟨_,_,h⟩:=zf6 0 [] rfl (by simp)
   rw[h q hq ho,zdM]
   simp
 |succ n ih=>
  obtain ⟨m,p,rfl⟩:∃m p,l=m++ [p]:=⟨l.dropLast,l.getLast (by intro h0;rw[h0] at hn;simp at hn),(List.dropLast_concat_getLast _).symm⟩
  have hm:∀q∈m,∀e∈q,GoodE e:=fun q hq=>hg q (by simp [hq])
  have hp:∀e∈p,GoodE e:=hg p (by simp)
  have ih:=ih hm (by simp at hn;omega)
  rw[zdJ]
  by_cases h0:p= []
  ·subst h0
   rw[ze1,ih]
   constructor
   ·rintro ⟨x,hx,k⟩;exact ⟨x,by simp [hx],k⟩
   ·rintro ⟨x,hx,k⟩
    rcases List.mem_append.1 hx with hx|hx
    ·exact ⟨x,hx,k⟩
    ·rw[List.mem_singleton.1 hx] at k;exact absurd rfl k.1
  ·rw[PS.ins_has p q (zfw _ m rfl hm) hp ho h0 hq,ih]
   constructor
   ·rintro (h|⟨x,hx,k⟩)
    ·exact ⟨p,by simp,h0,h⟩
    ·exact ⟨x,by simp [hx],k⟩
   ·rintro ⟨x,hx,k⟩
    rcases List.mem_append.1 hx with hx|hx
    ·exact .inr ⟨x,hx,k⟩
    ·rw[List.mem_singleton.1 hx] at k;exact .inl k.2
theorem zkm {N:Nat}:∀(p:List EV) (s:PS),OkS N s→(s.ins p).depth≤max s.depth p.length
 | [],s,_=>by rw[ze1];exact Nat.le_max_left ..
 | [e],.mk ms ks,_=>by simp only [PS.ins,PS.depth];omega
 |e::f::p,.mk ms ks,ok=>by
  simp only [OkS] at ok
  have ih:=zkm (f::p) (ZW e ks) (zef e ok.2.2.2.2.2.2)
  have hg:∀k:PK,(ZW e k).depth≤max k.depth 1:=fun k=>by
   induction k using PK.rec (motive_1:=fun _=>True) with
   |mk=>trivial
   |nil=>simp only [ZW,PS.empty,PS.depth,PK.depth];omega
   |cons x s r _ ih=>
    simp only [ZW,PK.depth]
    split
    ·omega
    ·split
     ·omega
     ·simp only [PS.empty,PS.depth,PK.depth];omega
  have hp:∀(t:PS) (k:PK),(zbA e t k).depth≤max k.depth t.depth:=fun t k=>by
   induction k using PK.rec (motive_1:=fun _=>True) with
   |mk=>trivial
   |nil=>simp only [zbA,PK.depth];omega
   |cons x s r _ ih=>
    simp only [zbA,PK.depth]
    split
    ·simp only [PK.depth];omega
    ·split
     ·simp only [PK.depth];omega
     ·simp only [PK.depth];omega
  have h1:=hg ks
  have h2:=hp ((ZW e ks).ins (f::p)) ks
  simp only [PS.ins,PS.depth]
  simp only [List.length_cons] at ih ⊢
  omega
theorem zkn:∀(n:Nat) (l:List (List EV)),l.length=n→(∀p∈l,∀e∈p,GoodE e)→∀B,1≤B→(∀p∈l,p.length≤B)→(mkP l).depth≤B
 |0,l,h,_,B,h1,_=>by
  cases l with
  |nil=>simp only [ztR,PS.empty,PS.depth,PK.depth];omega
  |cons _ _=>simp at h
 |n+1,l,h,hg,B,h1,hB=>by
  obtain ⟨m,p,rfl⟩:∃m p,l=m++ [p]:=⟨l.dropLast,l.getLast (by intro h0;rw[h0] at h;simp at h),(List.dropLast_concat_getLast _).symm⟩
  have hm:∀q∈m,∀e∈q,GoodE e:=fun q hq=>hg q (by simp [hq])
  have ih:=zkn n m (by simpa using h) hm B h1 fun q hq=>hB q (by simp [hq])
  have:=zkm p (mkP m) (zfw _ m rfl hm)
  have hpB:=hB p (by simp)
  rw[zdJ];omega
end Go.Smd
end
