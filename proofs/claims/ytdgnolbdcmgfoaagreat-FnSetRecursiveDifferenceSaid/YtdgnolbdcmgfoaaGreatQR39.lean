/- Part 39 of the proof: Kf Kg Kh Ki Kj Pc Pe. -/
import Derived.Test.YtdgnolbdcmgfoaaGreatQR38
import Derived.Test.YtdgnolbdcmgfoaaGreatQR13
import Derived.Test.YtdgnolbdcmgfoaaGreatQR33
set_option linter.unusedVariables false
set_option linter.unusedSimpArgs false
set_option maxRecDepth 100000
set_option maxHeartbeats 8000000
section
namespace Go.Smd
open Go.RowKit
def zx8 (S0:Env)(own:List (Nat×Ow)):Prop:=∀q v E xs,zd own q=some (.clo (.pin v E xs) [])→∀o0,S0.h0 q=some o0→zaF o0 (S0.β0 q) (.clo (.pin v E xs) []) v
theorem zvh {P:Program}{N:Nat}{w0:World}{S0:Env}{β:Nat→Value}{tl:List (Nat×Av)}{own:List (Nat×Ow)}{a:Act}{w:World}(s:Sim P N w0 S0 β ⟨tl,own⟩ a w):zx8 S0 own:=fun q v E xs hq o0 h0=>by
 have h:=(s.kept q o0 h0).2 _ hq
 rw[s.pinVal hq] at h
 exact h
theorem zdg {P:Program}{f:FuncId}{fn:Func}{c:Code}{args:List Av}{own:List (Nat×Ow)}{R:Av→List (Nat×Ow)→Prop}{N:Nat}{rs:List ResultVar}(sc:Sch)(hf:P.funcs[f]? =some fn)(hn:(fn.name== "runtime.NumGoroutine")=false)(hb:fn.body=some c)(hN:fn.ntmps=N)(hrs:fn.results=rs.toArray)(hl:args.length≤N)
  (h:(∀x∈args,x.isD=true→okA P x)→∀w0 S0,zx8 S0 own→ex P N w0 S0 (zkk P rs R) sc [.code c] () 100000 ⟨zad 0 args,own⟩):AProc P f args own R:=
 zgg hf hn hb hN hrs hl fun hok w0 S0=>fun β a w s=>((zmC (h hok w0 S0 (zvh s))).mono fun _ _=>ziH) β a w s
section
variable {P:Program} {N:Nat} {w0:World} {S0:Env} {σ:St}
theorem Weak.pinPop {q d g cap m:Nat}{E:TypeId}{xs:List (List D)}{y:List D}(hid:σ.h q=some (.clo (.pin (.slice (some ⟨g,0,none⟩) (m+1) cap) E (xs++ [y])) []))(hm:xs.length=m)(hd:σ.h d=none)(ht:∀p∈σ.tmps,q∉p.2.ids)(hqo:∀p∈σ.own,q∉p.2.ids)
  (hk:∀o0,S0.h0 d=some o0→zaF o0 (S0.β0 d) (.clo (.pin (.slice (some ⟨g,0,none⟩) m cap) E xs) []) (.slice (some ⟨g,0,none⟩) m cap)):Weak P N w0 S0 σ ((σ.del q).new d (.clo (.pin (.slice (some ⟨g,0,none⟩) m cap) E xs) [])):=fun β a w s=>by
 subst hm
 refine ⟨_,s.pinPop hid (.inr hd) (fun t=>?_) (fun i o hi=>hqo _ (Zv hi)) hk⟩
 unfold St.tmp
 cases h:zd σ.tmps t with
 |some y=>exact ht _ (Zv h)
 |none=>exact List.not_mem_nil
theorem ztl {Q:Exit→St→Prop}{sc:Sch}{k:List Fr}{n i:Nat}{l:List Oper}{tl:List (Nat×Av)}{hl:List (Nat×Ow)}{t:Tg (P,N,w0,S0,Q,sc,k,l,n,tl,hl)}(h:AWp P N w0 S0 (.region i l.toArray true) (fun e σ=>e= .normal∧∃σ',Weak P N w0 S0 σ σ'∧ex P N w0 S0 Q sc k () 100000 σ') ⟨tl,hl⟩):exD P N w0 S0 Q sc k i l n tl hl t none:=by
 refine (show AWp P N w0 S0 (.region i l.toArray true) (KQ P N w0 S0 Q k) ⟨tl,hl⟩ from fun β a w s=>Code.wp_mono ?_ (h β a w s))
 rintro e a' w' ⟨β',σ1,⟨rfl,σ',hw,q⟩,s'⟩
 obtain ⟨β2,s2⟩:=hw β' a' w' s'
 exact ⟨β2,σ',zaf _ _ _ q,s2⟩
end
end Go.Smd
end
section
namespace Go.Smd
open Go.RowKit Go.Proofs Go.Proofs.Tryz
abbrev tFP:TypeId:=211
abbrev tLP:TypeId:=149
theorem zw8 (v:Value)(ver:Nat)(R:List (List D))(p:List EV)(hp:∀e∈p,GoodE e)(hl:p.length*168≤140737488351232)(hb:(R.length+1)*24≤140737488351232):
  AProc prog 146 [.c (.d (.v v)),.c (.own 1000000000 0)] [(1000000000,.cells [.gs 1000000001 ver] zda),(1000000001,.arr ver tSP R),(1000000002,.clo (.pin v tPE (p.map eD)) [])]
   (fun r own'=>r= .tup []∧own'= [(6,.arr 0 tSP [[zG (p.map cE)]]),(1000000000,.cells [.gs 1000000001 (ver+1)] zda),(1000000001,.arr (ver+1) tSP (R++ [[zG (p.map cE)]])),(1000000002,.clo (.pin v tPE (p.map eD)) [])]):=by
 have h:=zw7 0 ver R p hp hl hb
 refine (AProc.pin (R:=fun r o=>r= .tup []∧o= [(6,.arr 0 tSP [[zG (p.map cE)]]),(1000000000,.cells [.gs 1000000001 (ver+1)] zda),(1000000001,.arr (ver+1) tSP (R++ [[zG (p.map cE)]])),(1000000002,.arr 0 tPE (p.map eD))]) (q:=1000000002) (n:=0) (E:=tPE) (xs:=p.map eD) v (by decide) rfl (by simp) (by simp [Av.ids,Cl.ids]) ?_ (h.mono fun r o ⟨h1,h2⟩=>?_)).mono ?_
 ·intro i o hi
  have:=Zv hi
  simp only [List.mem_cons,List.not_mem_nil,or_false,Prod.mk.injEq] at this
  rcases this with ⟨_,rfl⟩|⟨_,rfl⟩|⟨_,rfl⟩<;>simp [Ow.ids,Cl.ids]
 ·subst h1;subst h2
  refine ⟨⟨rfl,rfl⟩,rfl,fun i o hi=>?_,by simp [Av.ids]⟩
  have:=Zv hi
  simp only [List.mem_cons,List.not_mem_nil,or_false,Prod.mk.injEq] at this
  rcases this with ⟨_,rfl⟩|⟨_,rfl⟩|⟨_,rfl⟩|⟨_,rfl⟩<;>simp [Ow.ids,Cl.ids]
 ·rintro r own' ⟨own2,⟨h1,h2⟩,h3⟩
  subst h2
  exact ⟨h1,h3⟩
abbrev zfd:Ow:=.clo (.fn 146) [.own 1000000002 0]
theorem ztm (g m cap ver:Nat)(R:List (List D))(p:List EV)(e:EV)(hp:∀x∈p++ [e],GoodE x)(hm:(p.map eD).length=m)(hroom:m+1≤cap)(hm2:(m+1)*168≤140737488351232)(hb:(R.length+1)*24≤140737488351232):
  AProc prog 226 [leA (zR e),.c (.own 1000000000 0),.c (.own 1000000001 0)]
   [(1000000000,.cells [.fn 1000000004] tFP),(1000000001,.cells [.d (.v (.slice (some ⟨g,0,none⟩) m cap))] tLP),(1000000002,.cells [.gs 1000000003 ver] zda),(1000000003,.arr ver tSP R),(1000000004,zfd),(1000000005,.clo (.pin (.slice (some ⟨g,0,none⟩) m cap) tPE (p.map eD)) [])]
   (fun r own'=>r= .tup []∧own'= [(1000000005,.clo (.pin (.slice (some ⟨g,0,none⟩) m cap) tPE (p.map eD)) []),(3,.cells (cls (eD e)) tPE),(7,.arr 0 tPE [eD e]),(6006,.arr 0 tSP [[zG ((p++ [e]).map cE)]]),(1000000000,.cells [.fn 1000000004] tFP),(1000000001,.cells [.d (.v (.slice (some ⟨g,0,none⟩) m cap))] tLP),
    (1000000002,.cells [.gs 1000000003 (ver+1)] zda),(1000000003,.arr (ver+1) tSP (R++ [[zG ((p++ [e]).map cE)]])),(1000000004,zfd)]):=by
 have hbm:(m+1)*32≤140737488351232:=by omega
 have hpl:(p++ [e]).length=m+1:=by rw[List.length_append,←hm];simp
 have hc:=zw8 (.slice (some ⟨g,0,none⟩) (m+1) cap) ver R (p++ [e]) hp (by rw[hpl];omega) hb
 have he1:(p++ [e]).map eD=p.map eD++ [eD e]:=by simp
 rw[he1] at hc
 generalize (p++ [e]).map cE=pq at hc ⊢
 obtain ⟨e0,e1,e2,e3,he,he'⟩:=zbw (zR e)
 have he:eD e= [e0,e1,e2,e3]:=he
 rw[he] at hc
 rw[he',he]
 generalize p.map eD=X at hm hc ⊢
 have lf:prog.lay tFP=some (1,false):=by kernel_rfl
 refine zdg [] func226 (by kernel_rfl) rfl ntmps226 results226 (Nat.le_of_ble_eq_true (by kernel_rfl)) ?_;intro hok w0 S0 hpin
 (repeat' (first|(with_reducible first|refine zj (fun _=>?_) (fun _=>?_)|refine zi (fun _=>?_) (fun _=>?_)|refine zk zb (by kernel_rfl) ?_|exact za rfl)|(simp -dsimp)));(all_goals try with_reducible refine za ?_)
 refine ztl ?_
 refine ZI zb [[],[],[],[2],[1,2,3],[0,1,2,3,4]] [0,1,2,3,4,5] [3,4,5] [([],⟨[(4,?m4u1),(5,?m5u1),(6,?m6u1),(7,?m7u1),(8,?m8u1),(9,?m9u1)],?bu1,?o0u1⟩),([3],⟨[(4,?m4u1),(5,?m5u1),(6,?m6u1),(7,?m7u1),(8,?m8u1),(9,?m9u1)],?bu1,?o1u1⟩),([3,4],⟨[(4,?m4u1),(5,?m5u1),(6,?m6u1),(7,?m7u1),(8,?m8u1),(9,?m9u1)],?bu1,?o2u1⟩),([3,4,5],⟨[(4,?m4u1),(5,?m5u1),(6,?m6u1),(7,?m7u1),(8,?m8u1),(9,?m9u1)],?bu1,?o3u1⟩)] ?hoku1 rfl rfl ?hbu1 ?hou1 ?hstu1 ?hku1
 case' hbu1=>rfl
 case' hou1=>rfl
 case' hstu1=>refine ⟨⟨?v0u1,?s0u1⟩,⟨⟨?v1u1,?s1u1⟩,⟨⟨?v2u1,?s2u1⟩,⟨⟨?v3u1,?s3u1⟩,True.intro⟩⟩⟩⟩
 case v0u1=>
  iterate 3 refine ⟨.inr ⟨_,rfl,zm (z9 rfl rfl (by simp -dsimp [zg,zc,hb,hbm,lf]<;>with_reducible rfl))⟩,?_⟩
  iterate 3 refine ⟨.inl (by kernel_rfl),?_⟩
  exact True.intro
 case s0u1=>
  refine ⟨.inr ⟨_,_,rfl,rfl,zN (zaX (hdk:=rfl) (hW:=rfl) (hq:=by simp -dsimp [zg,zc,hb,hbm,lf]<;>(first|done|rfl|exact ⟨rfl,rfl⟩|exact ⟨rfl,rfl,rfl⟩)) (hoo:=rfl) (hv:=by simp -dsimp [zg,zc,hb,hbm,lf]<;>with_reducible rfl)) (by simp -dsimp [zg,zW,zay,zc,hb,hbm,lf]<;>with_reducible rfl)⟩,?_⟩
  iterate 2 refine ⟨.inl (by kernel_rfl),?_⟩
  exact True.intro
 case v1u1=>
  iterate 2 refine ⟨.inr ⟨_,rfl,zm (z9 rfl rfl (by simp -dsimp [zg,zc,hb,hbm,lf]<;>with_reducible rfl))⟩,?_⟩
  iterate 4 refine ⟨.inl (by kernel_rfl),?_⟩
  exact True.intro
 case' s1u1=>
  refine ⟨.inl (by kernel_rfl),?_⟩
  refine ⟨.inr ⟨_,_,rfl,rfl,zN (zno (n:=999) (q:=1000000005) ⟨by decide,by decide,by simp -dsimp [zg,zc,hb,hbm,lf]⟩ (hop:=rfl) (hd:=rfl) (hdk:=rfl) ⟨by decide,by simp -dsimp [zg,zc,hb,hbm,lf]⟩ (hT:=by kernel_rfl) (hE:=by kernel_rfl) (hn:=by first|rfl|kernel_rfl) (hx:=by simp -dsimp [zg,zc,hb,hbm,lf]<;>(first|done|rfl|exact ⟨rfl,rfl⟩|exact ⟨rfl,rfl,rfl⟩|exact ⟨⟨rfl,rfl,rfl⟩,rfl,rfl⟩)) (hzv:=by simp -dsimp [zg,zc,hb,hbm,lf]<;>(first|done|rfl|exact ⟨rfl,rfl⟩|exact ⟨rfl,rfl,rfl⟩|exact ⟨⟨rfl,rfl,rfl⟩,rfl,rfl⟩)) (hr:=by simp -dsimp [zg,zc,hb,hbm,lf]<;>(first|done|rfl|exact ⟨rfl,rfl⟩|exact ⟨rfl,rfl,rfl⟩|exact ⟨⟨rfl,rfl,rfl⟩,rfl,rfl⟩)) (hq:=by first|rfl|(simp -dsimp [zg,zc,hb,hbm,lf]<;>(first|done|rfl|exact ⟨rfl,rfl⟩|exact ⟨rfl,rfl,rfl⟩|exact ⟨⟨rfl,rfl,rfl⟩,rfl,rfl⟩))) (hm:=by first|assumption|rfl|simp;done) (hroom:=by first|assumption|omega) (hb:=by simp -dsimp [zg,zc,hb,hbm,lf]<;>first|done|assumption|omega) (hfree:= ?hf4k1u1) (hfo:=by simp -dsimp [zg,Av.ids,Ow.ids,Cl.ids,zc,hb,hbm,lf]) (ho:=by with_reducible rfl) (hv:=by simp -dsimp [zg,zc,hb,hbm,lf]<;>with_reducible rfl)) (by simp -dsimp [zg,zW,zay,zbE,zc,hb,hbm,lf]<;>with_reducible rfl)⟩,?_⟩
  rotate_left
  refine ⟨.inl (by kernel_rfl),?_⟩
  exact True.intro
 case v2u1=>
  refine ⟨.inr ⟨_,rfl,zm (z9 rfl rfl (by simp -dsimp [zg,zc,hb,hbm,lf]<;>with_reducible rfl))⟩,?_⟩
  iterate 5 refine ⟨.inl (by kernel_rfl),?_⟩
  exact True.intro
 case' s2u1=>
  iterate 2 refine ⟨.inl (by kernel_rfl),?_⟩
  refine ⟨.inr ⟨_,_,rfl,rfl,zN (zf5 (d:=9) (ρ:=[(1000000000,1000000002),(1000000001,1000000003),(1000000002,8)]) (t:=5) (hR:=hc) (hp:=rfl) (hd:=rfl) (hdk:=rfl) (hc:=by simp -dsimp [zg,zc,hb,hbm,lf]<;>(first|done|rfl|exact ⟨rfl,rfl⟩|exact ⟨rfl,rfl,rfl⟩)) (hx:=by simp -dsimp [zg,zc,hb,hbm,lf]<;>with_reducible rfl) (ho:=by simp -dsimp [zg,zc,hb,hbm,lf]) (hh:=by simp -dsimp [zg,zc,hb,hbm,lf]) (hb:=by simp -dsimp [zg,zc,hb,hbm,lf]) (h1:=by simp -dsimp [zg,zc,hb,hbm,lf]<;>with_reducible rfl) (hv:=by simp -dsimp [zg,zc,hb,hbm,lf]<;>with_reducible rfl) (hfix:= ?hf5k2u1)) (by simp -dsimp [zg,zW,zay,zc,hb,hbm,lf]<;>with_reducible rfl)⟩,?_⟩
  rotate_left
  exact True.intro
 case v3u1=>
  iterate 6 refine ⟨.inl (by kernel_rfl),?_⟩
  exact True.intro
 case s3u1=>
  iterate 3 refine ⟨.inl (by kernel_rfl),?_⟩
  exact True.intro
 case s1u1=>simp -dsimp [zg,Av.ids,Ow.ids,Cl.ids,zc,hb,hbm,lf]
 case s2u1=>simp -dsimp [zg,Av.ids,Cl.ids,zc,hb,hbm,lf]
 case hoku1=>kernel_rfl
 refine ⟨rfl,_,Weak.pinPop (q:=8) (d:=1000000005) (hid:=by simp -dsimp [zg,zc,hb,hbm,lf]<;>with_reducible rfl) (hm:=by assumption) (hd:=by simp -dsimp [zg,zc,hb,hbm,lf]) (ht:=by simp -dsimp [zg,Av.ids,Ow.ids,Cl.ids,zc,hb,hbm,lf]) (hqo:=by simp -dsimp [zg,Av.ids,Ow.ids,Cl.ids,zc,hb,hbm,lf]) (hk:=fun o0 h=>hpin 1000000005 _ _ _ rfl o0 h),?_⟩
 (repeat' (first|(with_reducible first|refine zj (fun _=>?_) (fun _=>?_)|refine zi (fun _=>?_) (fun _=>?_)|refine zk zb (by kernel_rfl) ?_|exact za rfl)|(simp -dsimp)));(all_goals try with_reducible refine za ?_)
 exact ⟨rfl,rfl⟩
theorem ztn (g m cap ver:Nat)(R:List (List D))(p:List EV)(e:EV)(hp:∀x∈p++ [e],GoodE x)(hm:(p.map eD).length=m)(hcap:cap<m+1)(hm2:(m+1)*168≤140737488351232)(hb:(R.length+1)*24≤140737488351232):
  AProc prog 226 [leA (zR e),.c (.own 1000000000 0),.c (.own 1000000001 0)]
   [(1000000000,.cells [.fn 1000000004] tFP),(1000000001,.cells [.d (.v (.slice (some ⟨g,0,none⟩) m cap))] tLP),(1000000002,.cells [.gs 1000000003 ver] zda),(1000000003,.arr ver tSP R),(1000000004,zfd),(1000000005,.clo (.pin (.slice (some ⟨g,0,none⟩) m cap) tPE (p.map eD)) [])]
   (fun r own'=>r= .tup []∧own'= [(3,.cells (cls (eD e)) tPE),(7,.arr 0 tPE [eD e]),(8,.arr 1 tPE (p.map eD++ [eD e])),(6006,.arr 0 tSP [[zG ((p++ [e]).map cE)]]),(1000000000,.cells [.fn 1000000004] tFP),(1000000001,.cells [.d (.v (.slice (some ⟨g,0,none⟩) m cap))] tLP),
    (1000000002,.cells [.gs 1000000003 (ver+1)] zda),(1000000003,.arr (ver+1) tSP (R++ [[zG ((p++ [e]).map cE)]])),(1000000004,zfd),(1000000005,.clo (.pin (.slice (some ⟨g,0,none⟩) m cap) tPE (p.map eD)) [])]):=by
 have hfull:∀g' cap',Value.slice (some ⟨g,0,none⟩) m cap= .slice (some ⟨g',0,none⟩) m cap'→cap'<m+1:=fun g' cap' h=>by injection h with _ _ h3;omega
 have hbm:(m+1)*32≤140737488351232:=by omega
 have hpl:(p++ [e]).length=m+1:=by rw[List.length_append,←hm];simp
 have hc:=zw7 1 ver R (p++ [e]) hp (by rw[hpl];omega) hb
 have he1:(p++ [e]).map eD=p.map eD++ [eD e]:=by simp
 rw[he1] at hc
 generalize (p++ [e]).map cE=pq at hc ⊢
 obtain ⟨e0,e1,e2,e3,he,he'⟩:=zbw (zR e)
 have he:eD e= [e0,e1,e2,e3]:=he
 rw[he] at hc
 rw[he',he]
 generalize p.map eD=X at hm hc ⊢
 have lf:prog.lay tFP=some (1,false):=by kernel_rfl
 refine zdg [] func226 (by kernel_rfl) rfl ntmps226 results226 (Nat.le_of_ble_eq_true (by kernel_rfl)) ?_;intro hok w0 S0 hpin
 (repeat' (first|(with_reducible first|refine zj (fun _=>?_) (fun _=>?_)|refine zi (fun _=>?_) (fun _=>?_)|refine zk zb (by kernel_rfl) ?_|exact za rfl)|(simp -dsimp)));(all_goals try with_reducible refine za ?_)
 refine zcT ?_
 refine ZI zb [[],[],[],[2],[1,2,3],[0,1,2,3,4]] [0,1,2,3,4,5] [3,4,5] [([],⟨[(4,?m4u2),(5,?m5u2),(6,?m6u2),(7,?m7u2),(8,?m8u2),(9,?m9u2)],?bu2,?o0u2⟩),([3],⟨[(4,?m4u2),(5,?m5u2),(6,?m6u2),(7,?m7u2),(8,?m8u2),(9,?m9u2)],?bu2,?o1u2⟩),([3,4],⟨[(4,?m4u2),(5,?m5u2),(6,?m6u2),(7,?m7u2),(8,?m8u2),(9,?m9u2)],?bu2,?o2u2⟩),([3,4,5],⟨[(4,?m4u2),(5,?m5u2),(6,?m6u2),(7,?m7u2),(8,?m8u2),(9,?m9u2)],?bu2,?o3u2⟩)] ?hoku2 rfl rfl ?hbu2 ?hou2 ?hstu2 ?hku2
 case' hbu2=>rfl
 case' hou2=>rfl
 case' hstu2=>refine ⟨⟨?v0u2,?s0u2⟩,⟨⟨?v1u2,?s1u2⟩,⟨⟨?v2u2,?s2u2⟩,⟨⟨?v3u2,?s3u2⟩,True.intro⟩⟩⟩⟩
 case v0u2=>
  iterate 3 refine ⟨.inr ⟨_,rfl,zm (z9 rfl rfl (by simp -dsimp [zg,zc,hb,hbm,lf]<;>with_reducible rfl))⟩,?_⟩
  iterate 3 refine ⟨.inl (by kernel_rfl),?_⟩
  exact True.intro
 case s0u2=>
  refine ⟨.inr ⟨_,_,rfl,rfl,zN (zaX (hdk:=rfl) (hW:=rfl) (hq:=by simp -dsimp [zg,zc,hb,hbm,lf]<;>(first|done|rfl|exact ⟨rfl,rfl⟩|exact ⟨rfl,rfl,rfl⟩)) (hoo:=rfl) (hv:=by simp -dsimp [zg,zc,hb,hbm,lf]<;>with_reducible rfl)) (by simp -dsimp [zg,zW,zay,zc,hb,hbm,lf]<;>with_reducible rfl)⟩,?_⟩
  iterate 2 refine ⟨.inl (by kernel_rfl),?_⟩
  exact True.intro
 case v1u2=>
  iterate 2 refine ⟨.inr ⟨_,rfl,zm (z9 rfl rfl (by simp -dsimp [zg,zc,hb,hbm,lf]<;>with_reducible rfl))⟩,?_⟩
  iterate 4 refine ⟨.inl (by kernel_rfl),?_⟩
  exact True.intro
 case' s1u2=>
  refine ⟨.inl (by kernel_rfl),?_⟩
  refine ⟨.inr ⟨_,_,rfl,rfl,zN (znp (n:=999) (q:=1000000005) ⟨by decide,by decide,by simp -dsimp [zg,zc,hb,hbm,lf]⟩ (hop:=rfl) (hd:=rfl) (hdk:=rfl) ⟨by decide,by simp -dsimp [zg,zc,hb,hbm,lf]⟩ (hT:=by kernel_rfl) (hE:=by kernel_rfl) (hn:=by first|rfl|kernel_rfl) (hx:=by simp -dsimp [zg,zc,hb,hbm,lf]<;>(first|done|rfl|exact ⟨rfl,rfl⟩|exact ⟨rfl,rfl,rfl⟩|exact ⟨⟨rfl,rfl,rfl⟩,rfl,rfl⟩)) (hzv:=by simp -dsimp [zg,zc,hb,hbm,lf]<;>(first|done|rfl|exact ⟨rfl,rfl⟩|exact ⟨rfl,rfl,rfl⟩|exact ⟨⟨rfl,rfl,rfl⟩,rfl,rfl⟩)) (hr:=by simp -dsimp [zg,zc,hb,hbm,lf]<;>(first|done|rfl|exact ⟨rfl,rfl⟩|exact ⟨rfl,rfl,rfl⟩|exact ⟨⟨rfl,rfl,rfl⟩,rfl,rfl⟩)) (hq:=by first|rfl|(simp -dsimp [zg,zc,hb,hbm,lf]<;>(first|done|rfl|exact ⟨rfl,rfl⟩|exact ⟨rfl,rfl,rfl⟩|exact ⟨⟨rfl,rfl,rfl⟩,rfl,rfl⟩))) (hm:=by first|assumption|rfl|simp;done) (hfull:=by first|assumption|omega) (hb:=by simp -dsimp [zg,zc,hb,hbm,lf]<;>first|done|assumption|omega) (hfree:= ?hf4k1u2) (hfo:=by simp -dsimp [zg,Av.ids,Ow.ids,Cl.ids,zc,hb,hbm,lf]) (ho:=by with_reducible rfl) (hv:=by simp -dsimp [zg,zc,hb,hbm,lf]<;>with_reducible rfl)) (by simp -dsimp [zg,zW,zay,zbE,zc,hb,hbm,lf]<;>with_reducible rfl)⟩,?_⟩
  rotate_left
  refine ⟨.inl (by kernel_rfl),?_⟩
  exact True.intro
 case v2u2=>
  refine ⟨.inr ⟨_,rfl,zm (z9 rfl rfl (by simp -dsimp [zg,zc,hb,hbm,lf]<;>with_reducible rfl))⟩,?_⟩
  iterate 5 refine ⟨.inl (by kernel_rfl),?_⟩
  exact True.intro
 case' s2u2=>
  iterate 2 refine ⟨.inl (by kernel_rfl),?_⟩
  refine ⟨.inr ⟨_,_,rfl,rfl,zN (zf5 (d:=9) (ρ:=[(1000000000,1000000002),(1000000001,1000000003),(1000000002,8)]) (t:=5) (hR:=hc) (hp:=rfl) (hd:=rfl) (hdk:=rfl) (hc:=by simp -dsimp [zg,zc,hb,hbm,lf]<;>(first|done|rfl|exact ⟨rfl,rfl⟩|exact ⟨rfl,rfl,rfl⟩)) (hx:=by simp -dsimp [zg,zc,hb,hbm,lf]<;>with_reducible rfl) (ho:=by simp -dsimp [zg,zc,hb,hbm,lf]) (hh:=by simp -dsimp [zg,zc,hb,hbm,lf]) (hb:=by simp -dsimp [zg,zc,hb,hbm,lf]) (h1:=by simp -dsimp [zg,zc,hb,hbm,lf]<;>with_reducible rfl) (hv:=by simp -dsimp [zg,zc,hb,hbm,lf]<;>with_reducible rfl) (hfix:= ?hf5k2u2)) (by simp -dsimp [zg,zW,zay,zc,hb,hbm,lf]<;>with_reducible rfl)⟩,?_⟩
  rotate_left
  exact True.intro
 case v3u2=>
  iterate 6 refine ⟨.inl (by kernel_rfl),?_⟩
  exact True.intro
 case s3u2=>
  iterate 3 refine ⟨.inl (by kernel_rfl),?_⟩
  exact True.intro
 case s1u2=>simp -dsimp [zg,Av.ids,Ow.ids,Cl.ids,zc,hb,hbm,lf]
 case s2u2=>simp -dsimp [zg,Av.ids,Cl.ids,zc,hb,hbm,lf]
 case hoku2=>kernel_rfl
 refine ⟨rfl,?_⟩
 (repeat' (first|(with_reducible first|refine zj (fun _=>?_) (fun _=>?_)|refine zi (fun _=>?_) (fun _=>?_)|refine zk zb (by kernel_rfl) ?_|exact za rfl)|(simp -dsimp)));(all_goals try with_reducible refine za ?_)
 exact ⟨rfl,rfl⟩
theorem zvi (ver:Nat)(R:List (List D))(e:EV)(hp:∀x∈ [e],GoodE x)(hb:(R.length+1)*24≤140737488351232):
  AProc prog 226 [leA (zR e),.c (.own 1000000000 0),.c (.own 1000000001 0)]
   [(1000000000,.cells [.fn 1000000004] tFP),(1000000001,.cells [.d (.v (.slice none 0 0))] tLP),(1000000002,.cells [.gs 1000000003 ver] zda),(1000000003,.arr ver tSP R),(1000000004,zfd),(1000000005,.clo (.pin (.slice none 0 0) tPE []) [])]
   (fun r own'=>r= .tup []∧own'= [(3,.cells (cls (eD e)) tPE),(7,.arr 0 tPE [eD e]),(8,.arr 1 tPE [eD e]),(6006,.arr 0 tSP [[zG ([e].map cE)]]),(1000000000,.cells [.fn 1000000004] tFP),(1000000001,.cells [.d (.v (.slice none 0 0))] tLP),
    (1000000002,.cells [.gs 1000000003 (ver+1)] zda),(1000000003,.arr (ver+1) tSP (R++ [[zG ([e].map cE)]])),(1000000004,zfd),(1000000005,.clo (.pin (.slice none 0 0) tPE []) [])]):=by
 have hc:=zw7 1 ver R [e] hp (by simp) hb
 have he1: [e].map eD= [eD e]:=rfl
 rw[he1] at hc
 generalize [e].map cE=pq at hc ⊢
 obtain ⟨e0,e1,e2,e3,he,he'⟩:=zbw (zR e)
 have he:eD e= [e0,e1,e2,e3]:=he
 rw[he] at hc
 rw[he',he]
 have lf:prog.lay tFP=some (1,false):=by kernel_rfl
 refine zdg [] func226 (by kernel_rfl) rfl ntmps226 results226 (Nat.le_of_ble_eq_true (by kernel_rfl)) ?_;intro hok w0 S0 hpin
 (repeat' (first|(with_reducible first|refine zj (fun _=>?_) (fun _=>?_)|refine zi (fun _=>?_) (fun _=>?_)|refine zk zb (by kernel_rfl) ?_|exact za rfl)|(simp -dsimp)));(all_goals try with_reducible refine za ?_)
 refine zcT ?_
 refine ZI zb [[],[],[],[2],[1,2,3],[0,1,2,3,4]] [0,1,2,3,4,5] [3,4,5] [([],⟨[(4,?m4u3),(5,?m5u3),(6,?m6u3),(7,?m7u3),(8,?m8u3),(9,?m9u3)],?bu3,?o0u3⟩),([3],⟨[(4,?m4u3),(5,?m5u3),(6,?m6u3),(7,?m7u3),(8,?m8u3),(9,?m9u3)],?bu3,?o1u3⟩),([3,4],⟨[(4,?m4u3),(5,?m5u3),(6,?m6u3),(7,?m7u3),(8,?m8u3),(9,?m9u3)],?bu3,?o2u3⟩),([3,4,5],⟨[(4,?m4u3),(5,?m5u3),(6,?m6u3),(7,?m7u3),(8,?m8u3),(9,?m9u3)],?bu3,?o3u3⟩)] ?hoku3 rfl rfl ?hbu3 ?hou3 ?hstu3 ?hku3
 case' hbu3=>rfl
 case' hou3=>rfl
 case' hstu3=>refine ⟨⟨?v0u3,?s0u3⟩,⟨⟨?v1u3,?s1u3⟩,⟨⟨?v2u3,?s2u3⟩,⟨⟨?v3u3,?s3u3⟩,True.intro⟩⟩⟩⟩
 case v0u3=>
  iterate 3 refine ⟨.inr ⟨_,rfl,zm (z9 rfl rfl (by simp -dsimp [zg,zc,hb,lf]<;>with_reducible rfl))⟩,?_⟩
  iterate 3 refine ⟨.inl (by kernel_rfl),?_⟩
  exact True.intro
 case s0u3=>
  refine ⟨.inr ⟨_,_,rfl,rfl,zN (zaX (hdk:=rfl) (hW:=rfl) (hq:=by simp -dsimp [zg,zc,hb,lf]<;>(first|done|rfl|exact ⟨rfl,rfl⟩|exact ⟨rfl,rfl,rfl⟩)) (hoo:=rfl) (hv:=by simp -dsimp [zg,zc,hb,lf]<;>with_reducible rfl)) (by simp -dsimp [zg,zW,zay,zc,hb,lf]<;>with_reducible rfl)⟩,?_⟩
  iterate 2 refine ⟨.inl (by kernel_rfl),?_⟩
  exact True.intro
 case v1u3=>
  iterate 2 refine ⟨.inr ⟨_,rfl,zm (z9 rfl rfl (by simp -dsimp [zg,zc,hb,lf]<;>with_reducible rfl))⟩,?_⟩
  iterate 4 refine ⟨.inl (by kernel_rfl),?_⟩
  exact True.intro
 case s1u3=>
  refine ⟨.inl (by kernel_rfl),?_⟩
  refine ⟨.inr ⟨_,_,rfl,rfl,zN (zaX (hdk:=rfl) (hW:=rfl) (hq:=by simp -dsimp [zg,zc,hb,lf]<;>(first|done|rfl|exact ⟨rfl,rfl⟩|exact ⟨rfl,rfl,rfl⟩)) (hoo:=rfl) (hv:=by simp -dsimp [zg,zc,hb,lf]<;>with_reducible rfl)) (by simp -dsimp [zg,zW,zay,zc,hb,lf]<;>with_reducible rfl)⟩,?_⟩
  refine ⟨.inl (by kernel_rfl),?_⟩
  exact True.intro
 case v2u3=>
  refine ⟨.inr ⟨_,rfl,zm (z9 rfl rfl (by simp -dsimp [zg,zc,hb,lf]<;>with_reducible rfl))⟩,?_⟩
  iterate 5 refine ⟨.inl (by kernel_rfl),?_⟩
  exact True.intro
 case' s2u3=>
  iterate 2 refine ⟨.inl (by kernel_rfl),?_⟩
  refine ⟨.inr ⟨_,_,rfl,rfl,zN (zf5 (d:=9) (ρ:=[(1000000000,1000000002),(1000000001,1000000003),(1000000002,8)]) (t:=5) (hR:=hc) (hp:=rfl) (hd:=rfl) (hdk:=rfl) (hc:=by simp -dsimp [zg,zc,hb,lf]<;>(first|done|rfl|exact ⟨rfl,rfl⟩|exact ⟨rfl,rfl,rfl⟩)) (hx:=by simp -dsimp [zg,zc,hb,lf]<;>with_reducible rfl) (ho:=by simp -dsimp [zg,zc,hb,lf]) (hh:=by simp -dsimp [zg,zc,hb,lf]) (hb:=by simp -dsimp [zg,zc,hb,lf]) (h1:=by simp -dsimp [zg,zc,hb,lf]<;>with_reducible rfl) (hv:=by simp -dsimp [zg,zc,hb,lf]<;>with_reducible rfl) (hfix:= ?hf5k2u3)) (by simp -dsimp [zg,zW,zay,zc,hb,lf]<;>with_reducible rfl)⟩,?_⟩
  rotate_left
  exact True.intro
 case v3u3=>
  iterate 6 refine ⟨.inl (by kernel_rfl),?_⟩
  exact True.intro
 case s3u3=>
  iterate 3 refine ⟨.inl (by kernel_rfl),?_⟩
  exact True.intro
 case s2u3=>simp -dsimp [zg,Av.ids,Cl.ids,zc,hb,lf]
 case hoku3=>kernel_rfl
 refine ⟨rfl,?_⟩
 (repeat' (first|(with_reducible first|refine zj (fun _=>?_) (fun _=>?_)|refine zi (fun _=>?_) (fun _=>?_)|refine zk zb (by kernel_rfl) ?_|exact za rfl)|(simp -dsimp)));(all_goals try with_reducible refine za ?_)
 exact ⟨rfl,rfl⟩
abbrev zx9:Ow:=.clo (.fn 226) [.own 1000000000 0,.own 1000000001 0]
noncomputable abbrev zfe (p:List EV)(A:List EV):List (List D):=A.map fun e=>[zG ((p++ [e]).map cE)]
noncomputable abbrev zl0 (v:Value)(p:List EV)(ver:Nat)(R:List (List D)):List (Nat×Ow):=
 [(1000000000,.cells [.fn 1000000004] tFP),(1000000001,.cells [.d (.v v)] tLP),(1000000002,.cells [.gs 1000000003 ver] zda),(1000000003,.arr ver tSP R),(1000000004,zfd),(1000000005,.clo (.pin v tPE (p.map eD)) []),(1000000006,zx9)]
theorem zto (v:Value)(ver:Nat)(R:List (List D))(p A:List EV)(hv:IsPin v p.length)(hp:∀x∈p,GoodE x)(hA:∀x∈A,GoodE x)(hm:(p.length+1)*168≤140737488351232)(hl:A.length≤4000000000000)(hb:(R.length+A.length)*24≤140737488351232):
  AProc prog 225 [.c (.d (.pt [.sl tPE (A.map eD)])),.c (.fn 1000000006)] (zl0 v p ver R)
   (fun r own'=>r= .tup []∧own'=zl0 v p (ver+A.length) (R++zfe p A)):=by
 have b1:A.length≤9223372036854775807:=by omega
 unfold zl0
 refine zaI [] func225 (by kernel_rfl) rfl ntmps225 results225 (Nat.le_of_ble_eq_true (by kernel_rfl)) ?_;intro hok w0 S0
 (repeat' (first|(with_reducible first|refine zj (fun _=>?_) (fun _=>?_)|refine zi (fun _=>?_) (fun _=>?_)|refine zk zb (by kernel_rfl) ?_|exact za rfl)|(simp -dsimp [b1])));(all_goals try with_reducible refine za ?_)
 refine zC (fun i:Nat=>⟨[(1,.c (.fn 1000000006)),(9,.c (.d (.sl tPE (A.map eD)))),(10,aI A.length),(11,aI i)],zl0 v p (ver+i) (R++zfe p (A.take i))⟩) (fun i=>i≤A.length) (fun i=>A.length - i) 0 ?_ (Nat.zero_le _) ?_
 ·simp only [List.take_zero,zfe,List.map_nil,List.append_nil,Nat.add_zero]
  exact Weak.same (by simp -dsimp) (by simp -dsimp) (by first|rfl|(simp [zf,Av.ids,Ow.ids,Cl.ids,Go.Smd.keys];done))
 ·rintro i hi K hK
  by_cases hlt:i<A.length
  ·have hw:IntKind.wrap .i64 ((i:Int)+1)=((i+1:Nat):Int):=by rw[zn]<;>omega
   have hx:∀x∈p++ [A[i]],GoodE x:=fun x hx=>by
    rcases List.mem_append.1 hx with h|h
    ·exact hp x h
    ·rw[List.mem_singleton.1 h];exact hA _ (List.getElem_mem hlt)
   have hlen:(R++zfe p (A.take i)).length=R.length+i:=by simp;omega
   have hbb:((R++zfe p (A.take i)).length+1)*24≤140737488351232:=by omega
   have hnx:R++zfe p (A.take (i+1))=R++zfe p (A.take i)++ [[zG ((p++ [A[i]]).map cE)]]:=by
    rw[List.take_succ_eq_append_getElem hlt,zfe,List.map_append,List.append_assoc];rfl
   obtain ⟨e0,e1,e2,e3,he,he'⟩:=zbw (zR A[i])
   have he:eD A[i]= [e0,e1,e2,e3]:=he
   rcases id hv with ⟨rfl,h0⟩|⟨g,cap,rfl,hcap⟩
   ·have hp0:p= []:=List.eq_nil_of_length_eq_zero h0
    subst hp0
    have hc:=zvi (ver+i) (R++zfe [] (A.take i)) A[i] hx hbb
    rw[he'] at hc
    simp only [List.nil_append] at hnx hc
    rw[←hnx] at hc
    unfold zl0
    rw[he] at hc
    (repeat' (first|(with_reducible first|refine zj (fun _=>?_) (fun _=>?_)|refine zi (fun _=>?_) (fun _=>?_))|((with_reducible apply zc0 (ρ:=[(1000000000,1000000000),(1000000001,1000000001),(1000000002,1000000002),(1000000003,1000000003),(1000000004,1000000004),(1000000005,1000000005)]) 7 (hc));(case hc=>simp -dsimp [b1,hlt,hw,he]<;>first|exact ⟨rfl,rfl,rfl⟩|exact ⟨rfl,rfl⟩|done);(case hx=>simp -dsimp [b1,hlt,hw,he]<;>with_reducible rfl);(case ho=>simp -dsimp [b1,hlt,hw,he]);(case hh=>simp -dsimp [b1,hlt,hw,he]);(case hb=>simp -dsimp [b1,hlt,hw,he]))|(with_reducible first|refine zk zb (by kernel_rfl) ?_|exact za rfl)|(simp -dsimp [b1,hlt,hw,he])));(all_goals try with_reducible refine za ?_)
    refine hK _ (i+1) ?_ (by omega) (by omega)
    rw[←Nat.add_assoc]
    exact Weak.same (by simp -dsimp) (by simp -dsimp) (by first|rfl|(simp [zf,Av.ids,Ow.ids,Cl.ids,Go.Smd.keys];done))
   ·have hc0:=ztn g p.length cap (ver+i) (R++zfe p (A.take i)) p A[i] hx (by simp)
    have hc1:=ztm g p.length cap (ver+i) (R++zfe p (A.take i)) p A[i] hx (by simp)
    rw[he',←hnx] at hc0 hc1
    by_cases hr:p.length+1≤cap
    ·have hc:=hc1 hr hm hbb
     unfold zl0
     rw[he] at hc
     (repeat' (first|(with_reducible first|refine zj (fun _=>?_) (fun _=>?_)|refine zi (fun _=>?_) (fun _=>?_))|((with_reducible apply zc0 (ρ:=[(1000000000,1000000000),(1000000001,1000000001),(1000000002,1000000002),(1000000003,1000000003),(1000000004,1000000004),(1000000005,1000000005)]) 7 (hc));(case hc=>simp -dsimp [b1,hlt,hw,he]<;>first|exact ⟨rfl,rfl,rfl⟩|exact ⟨rfl,rfl⟩|done);(case hx=>simp -dsimp [b1,hlt,hw,he]<;>with_reducible rfl);(case ho=>simp -dsimp [b1,hlt,hw,he]);(case hh=>simp -dsimp [b1,hlt,hw,he]);(case hb=>simp -dsimp [b1,hlt,hw,he]))|(with_reducible first|refine zk zb (by kernel_rfl) ?_|exact za rfl)|(simp -dsimp [b1,hlt,hw,he])));(all_goals try with_reducible refine za ?_)
     refine hK _ (i+1) ?_ (by omega) (by omega)
     rw[←Nat.add_assoc]
     exact Weak.same (by simp -dsimp) (by simp -dsimp) (by first|rfl|(simp [zf,Av.ids,Ow.ids,Cl.ids,Go.Smd.keys];done))
    ·have hc:=hc0 (by omega) hm hbb
     unfold zl0
     rw[he] at hc
     (repeat' (first|(with_reducible first|refine zj (fun _=>?_) (fun _=>?_)|refine zi (fun _=>?_) (fun _=>?_))|((with_reducible apply zc0 (ρ:=[(1000000000,1000000000),(1000000001,1000000001),(1000000002,1000000002),(1000000003,1000000003),(1000000004,1000000004),(1000000005,1000000005)]) 7 (hc));(case hc=>simp -dsimp [b1,hlt,hw,he]<;>first|exact ⟨rfl,rfl,rfl⟩|exact ⟨rfl,rfl⟩|done);(case hx=>simp -dsimp [b1,hlt,hw,he]<;>with_reducible rfl);(case ho=>simp -dsimp [b1,hlt,hw,he]);(case hh=>simp -dsimp [b1,hlt,hw,he]);(case hb=>simp -dsimp [b1,hlt,hw,he]))|(with_reducible first|refine zk zb (by kernel_rfl) ?_|exact za rfl)|(simp -dsimp [b1,hlt,hw,he])));(all_goals try with_reducible refine za ?_)
     refine hK _ (i+1) ?_ (by omega) (by omega)
     rw[←Nat.add_assoc]
     exact Weak.same (by simp -dsimp) (by simp -dsimp) (by first|rfl|(simp [zf,Av.ids,Ow.ids,Cl.ids,Go.Smd.keys];done))
  ·have hi2:i=A.length:=by omega
   subst hi2
   rw[List.take_of_length_le (Nat.le_refl _)]
   unfold zl0
   (repeat' (first|(with_reducible first|refine zj (fun _=>?_) (fun _=>?_)|refine zi (fun _=>?_) (fun _=>?_)|refine zk zb (by kernel_rfl) ?_|exact za rfl)|(simp -dsimp [b1])));(all_goals try with_reducible refine za ?_)
   exact ⟨rfl,rfl⟩
theorem AProc.pre1 {P:Program}{f:FuncId}{xs ys:List D}{xa:List Av}{own:List (Nat×Ow)}{R:Av→List (Nat×Ow)→Prop}(h:AProc P f (.c (.d (.pt xs))::xa) own R):AProc P f (.c (.d (.pt (xs++ys)))::xa) own R:=
 ⟨h.1,fun w E β vs s ha=>h.2 w E β vs s (by
  obtain ⟨v,vs,rfl,h1,ha⟩:=ha.inv
  exact .cons (RepD.pre (show RepD P w _ _ v from h1)) ha)⟩
mutual
def PS.list:PS→List (List EV)
 | .mk ms ks=>ms.map (fun e=>[e])++ks.list
def PK.list:PK→List (List EV)
 | .nil=>[]
 | .cons e s r=>s.list.map (fun q=>e::q)++r.list
end
mutual
def PS.depth:PS→Nat
 | .mk _ ks=>ks.depth+1
def PK.depth:PK→Nat
 | .nil=>0
 | .cons _ s r=>max s.depth r.depth
end
mutual
theorem PS.list_length:∀s:PS,s.list.length=s.size
 | .mk ms ks=>by simp only [PS.list,PS.size,List.length_append,List.length_map,PK.list_length ks]
theorem PK.list_length:∀k:PK,k.list.length=k.size
 | .nil=>by simp only [PK.list,PK.size,List.length_nil]
 | .cons e s r=>by simp only [PK.list,PK.size,List.length_append,List.length_map,PS.list_length s,PK.list_length r]
end
theorem PK.depth_le:∀{k:PK},∀s∈k.ss,s.depth≤k.depth
 | .nil,s,h=>by simp [PK.ss] at h
 | .cons e t r,s,h=>by
  have h2:=PK.depth_le (k:=r)
  simp only [PK.ss] at h
  simp only [PK.depth]
  rcases List.mem_cons.1 h with h|h
  ·rw[h];exact Nat.le_max_left ..
  ·exact Nat.le_trans (h2 s h) (Nat.le_max_right ..)
noncomputable abbrev zcY (p:List EV)(L:List (List EV)):List (List D):=L.map fun q=>[zG ((p++q).map cE)]
theorem zqS (p A:List EV):zfe p A=zcY p (A.map fun e=>[e]):=by simp [zfe,zcY]
theorem zqT (p:List EV)(e:EV)(L:List (List EV)):zcY p (L.map fun q=>e::q)=zcY (p++ [e]) L:=by simp [zcY]
def PK.take:Nat→PK→PK
 |0,_=>.nil
 |_+1,.nil=>.nil
 |i+1,.cons e s r=>.cons e s (r.take i)
theorem PK.take_zero (k:PK):k.take 0= .nil:=by cases k<;>rfl
theorem PK.take_all:∀{k:PK} {i:Nat} ,k.es.length≤i→k.take i=k
 | .nil,0,_=>rfl
 | .nil,i+1,_=>rfl
 | .cons e s r,0,h=>by simp [PK.es] at h
 | .cons e s r,i+1,h=>by
  simp only [PK.es,List.length_cons] at h
  simp only [PK.take];rw[PK.take_all (by omega)]
theorem PK.take_list:∀{k:PK} {i:Nat}(h:i<k.es.length)(h':i<k.ss.length) ,(k.take (i+1)).list=(k.take i).list++(k.ss[i]).list.map (fun q=>k.es[i]::q)
 | .nil,i,h,_=>by simp [PK.es] at h
 | .cons e s r,0,h,h'=>by
  simp only [PK.take,PK.list,PK.ss,PK.es,List.getElem_cons_zero,PK.take_zero,List.append_nil,List.nil_append]
 | .cons e s r,i+1,h,h'=>by
  have h1:i<r.es.length:=by simpa [PK.es] using h
  have h2:i<r.ss.length:=by simpa [PK.ss] using h'
  have ih:=PK.take_list h1 h2
  have e1:(PK.cons e s r).take (i+1+1)= .cons e s (r.take (i+1)):=rfl
  have e2:(PK.cons e s r).take (i+1)= .cons e s (r.take i):=rfl
  rw[e1,e2]
  simp only [PK.list,ih,PK.ss,PK.es,List.getElem_cons_succ,List.append_assoc]
theorem PK.take_size {k:PK}{i:Nat}(h:i<k.es.length)(h':i<k.ss.length):(k.take (i+1)).size=(k.take i).size+(k.ss[i]).size:=by
 have:=congrArg List.length (PK.take_list h h')
 rw[List.length_append,List.length_map,PK.list_length,PK.list_length,PS.list_length] at this
 exact this
theorem PK.take_le:∀(k:PK) (i:Nat) ,(k.take i).size≤k.size
 |k,0=>by rw[PK.take_zero];simp only [PK.size];omega
 | .nil,i+1=>by simp only [PK.take,PK.size];omega
 | .cons e s r,i+1=>by
  have:=PK.take_le r i
  simp only [PK.take,PK.size];omega
section
variable {P:Program} {σ:St} {d:Option Tmp} {ty:TypeId} {pos:String} {af:Array Edge} {g:Option (Nat×Bool)}
@[simp ↓] theorem ztp {T:TypeId}{n:Nat}{xs:Array (Nat×Operand)}:zhL σ ⟨d,.buildSlice T n xs,ty,pos,af,g⟩=none:=_root_.id rfl
end
@[simp] theorem zvS:prog.fulfils  104 271=true:=by kernel_rfl
theorem ztq {e:EV}(h:EVs e):EVs (z8 (zR e)):=by
 obtain ⟨h1,h2⟩:=h
 unfold zR
 split
 ·refine ⟨?_,?_⟩<;>simp [z8,zbL]<;>omega
 ·split
  ·exact ⟨by simp [z8],by simp [z8]⟩
  ·split<;>exact ⟨by simp [z8],by simp [z8]⟩
end Go.Smd
end
