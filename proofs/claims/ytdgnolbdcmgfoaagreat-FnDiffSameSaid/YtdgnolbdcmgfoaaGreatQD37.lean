/- Part 37. -/
import Derived.Test.YtdgnolbdcmgfoaaGreatQD24
import Derived.Test.YtdgnolbdcmgfoaaGreatQD08
import Derived.Test.YtdgnolbdcmgfoaaGreatQD36
import Derived.Test.YtdgnolbdcmgfoaaGreatQD33
import Derived.Test.YtdgnolbdcmgfoaaGreatQD13
set_option linter.unusedVariables false
set_option linter.unusedSimpArgs false
set_option maxRecDepth 100000
set_option maxHeartbeats 8000000
section
namespace Go.Smd
open Go.RowKit
section
variable {P:Program} {N:Nat}
theorem zfz {full base:List (Nat×Av)}{own own':List (Nat×Ow)}{o:Oper}{f:FuncId}{xs args:List Av}{Ts:List TypeId}{ownA ownB:List (Nat×Ow)}{ρ:List (Nat×Nat)}{r0:Av}{d:Tmp}(t:Nat)(hp:Zu o.op=true)(hd:o.dst=some d)(hdk:Zd N o=true)
  (hc:zy P ⟨full++base,own⟩ o=some (f,xs,Ts)) (hx:ZY P [] (zd own) xs Ts=args.map (Av.ren (ZC ρ t))) (ho:zce ρ args ownA=true) (hh:zb2 (zd own) (ZC ρ t) ownA) (hR:AProc P f args ownA fun r own'=>r=r0∧own'=ownB)
  (hb:ZI ⟨[],own⟩ ρ t ownB=true) (h1:zcM (Ow.fix (zd (zT ⟨[],own⟩ ρ t ownB))) (zT ⟨[],own⟩ ρ t ownB)=own') (hv:(r0.ren (ZC ρ t)).fix (zd (zT ⟨[],own⟩ ρ t ownB))=ze full base d)
  (hfix:∀p∈full++base,p.2.fix (zd (zT ⟨[],own⟩ ρ t ownB))=p.2∨∃id∈p.2.ids,zd own id=none):Eff P N full base o own own':=fun σ e0 e1 e2 K hK=>by
 refine ⟨hdk,?_⟩
 rw[zd5 hp,zbw (zbT hp)]
 refine .inr (.sem fun N' w0 S0 β a w s hd'=>?_)
 have hsh:σ.h=zd own:=e0
 have hkk:∀i,zp σ.own i=zp own i:=fun i=>by
  have:zd σ.own i=zd own i:=congrFun e0 i
  cases hq:zp own i with
  |true=>obtain ⟨x,hx⟩:=zG.1 hq;exact zG.2 ⟨x,by rw[this,hx]⟩
  |false=>
   cases hq2:zp σ.own i with
   |false=>rfl
   |true=>obtain ⟨x,hx⟩:=zG.1 hq2;rw[this] at hx;rw[zG.2 ⟨x,hx⟩] at hq;cases hq
 have hbo:∀own',ZI σ ρ t own'=ZI ⟨[],own⟩ ρ t own':=fun own'=>by
  unfold ZI
  simp only [hkk]
 have hfil:∀(p:Nat→Bool) (l:List (Nat×Ow)) (i:Nat),zd (zbt p l) i=if p i then zd l i else none:=fun p l i=>by
  induction l with
  |nil=>simp [zbt,zd]
  |cons q l ih=>
   obtain ⟨k,x⟩:=q
   simp only [zbt]
   cases hpk:p k with
   |true=>
    simp only [zd]
    by_cases e:k=i
    ·subst e;simp [hpk]
    ·simp only [if_neg e];exact ih
   |false=>
    simp only [zd]
    by_cases e:k=i
    ·subst e;rw[ih];simp [hpk]
    ·simp only [if_neg e];exact ih
 have hbh:∀own',zd (zT σ ρ t own')=zd (zT ⟨[],own⟩ ρ t own'):=fun own'=>by
  funext i
  unfold zT
  rw[zaw,zaw,hfil,hfil]
  have:zd σ.own i=zd own i:=congrFun e0 i
  simp only [this]
 have hfx:∀t',(σ.tmp t').fix (zd (zT ⟨[],own⟩ ρ t ownB))=σ.tmp t':=fun t'=>by
  have hl:∀{l:List (Nat×Av)},(∀p∈l,p∈full++base)→∀x,zd l t'=some x→σ.tmp t'=x→x.fix (zd (zT ⟨[],own⟩ ρ t ownB))=x:=fun {l} hl x hx e=>by
   rcases hfix _ (hl _ (Zn hx)) with h|⟨id,h1,h2⟩
   ·exact h
   ·have h3:=s.tmp t'
    rw[e] at h3
    have h4:=h3.has id h1
    rw[hsh,h2] at h4
    cases h4
  rcases e2 t' with h|h<;>rw[h]
  ·unfold ze at h ⊢
   cases hq:zd full t' with
   |some x=>rw[hq] at h;exact hl (fun p hp=>List.mem_append_left _ hp) x hq h
   |none=>
    rw[hq] at h
    cases hq2:zd base t' with
    |some x=>rw[hq2] at h;exact hl (fun p hp=>List.mem_append_right _ hp) x hq2 h
    |none=>rfl
  ·cases hq2:zd base t' with
   |some x=>rw[hq2] at h;exact hl (fun p hp=>List.mem_append_right _ hp) x hq2 h
   |none=>rfl
 refine zlN s hd' (.proc (t:=t) (ρ:=ρ) (own0:=ownA) (args:=args) (by rw[zb3 e1 hsh];exact hc) (by rw[hsh];exact hx) ho (by rw[hsh];exact hh) hR ?_)
 rintro r own'' ⟨rfl,rfl⟩
 refine ⟨by rw[hbo];exact hb,hK _ ?_ fun t'=>?_⟩
 ·rw[ZG]
  show zd (zcM (Ow.fix (zd (zT σ ρ t own''))) (zT σ ρ t own''))=zd own'
  rw[←h1]
  funext i
  simp only [zcm,zbJ,hbh]
 ·rw[Zl,hbh,hv,hd]
  by_cases e:some d=some t'
  ·rw[if_pos e,if_pos e];cases e;rfl
  ·rw[if_neg e,if_neg e]
   have:(σ.back ρ t own'').tmp t'=(σ.tmp t').fix (zd (zT σ ρ t own'')):=by
    unfold St.back St.tmp
    simp only [zcm,zbJ,zaU]
    cases zd σ.tmps t'<;>rfl
   rw[this,hbh];exact hfx t'
end
end Go.Smd
end
section
namespace Go.Smd
open Go.RowKit Go.Proofs Go.Proofs.Tryz
abbrev tSP:TypeId:=22
abbrev zdr:TypeId:=32
noncomputable abbrev cE (e:EV):EV:=zcl (zX e)
theorem zud {p:List EV}(hp:∀e∈p,GoodE e):∀q∈p.map zX,ZR q∧zeh q:=fun q hq=>by
 obtain ⟨e,he,rfl⟩:=List.mem_map.1 hq
 have:=hp e he
 exact ⟨this.f.le,zr4 this.s.hl⟩
theorem zv1 (n ver:Nat)(R:List (List D))(p:List EV)(hp:∀e∈p,GoodE e)(hl:p.length*168≤140737488351232)(hb:(R.length+1)*24≤140737488351232):
  AProc prog 146 [.c (.gs 1000000002 n),.c (.own 1000000000 0)] [(1000000000,.cells [.gs 1000000001 ver] zdr),(1000000001,.arr ver tSP R),(1000000002,.arr n tPE (p.map eD))]
   (fun r own'=>r= .tup []∧own'= [(6,.arr 0 tSP [[z9 (p.map cE)]]),(1000000000,.cells [.gs 1000000001 (ver+1)] zdr),(1000000001,.arr (ver+1) tSP (R++ [[z9 (p.map cE)]])),(1000000002,.arr n tPE (p.map eD))]):=by
 have hc:=znP n (p.map zX) (zud hp) (by simpa using hl)
 simp only [List.map_map] at hc
 have e1:p.map (leD∘zX)=p.map eD:=rfl
 have e2:p.map (zcl∘zX)=p.map cE:=rfl
 rw[e1,e2] at hc
 generalize p.map cE=q at hc ⊢
 generalize p.map eD=X at hc ⊢
 refine zaj [] func146 (by kernel_rfl) rfl ntmps146 results146 (Nat.le_of_ble_eq_true (by kernel_rfl)) ?_;intro hok w0 S0
 (repeat' (first|(with_reducible first|refine zj (fun _=>?_) (fun _=>?_)|refine zi (fun _=>?_) (fun _=>?_)|refine zk zb (by kernel_rfl) ?_|exact za rfl)|(simp -dsimp)));(all_goals try with_reducible refine za ?_)
 refine zcB ?_
 refine Zz zb [[],[],[1],[1,2],[0,1,2,3],[0,1,2,3,4]] [0,1,2,3,4,5] [2,3,4,5] [([],⟨[(3,?m3u1),(4,?m4u1),(5,?m5u1),(6,?m6u1),(7,?m7u1)],?bu1,?o0u1⟩),([2],⟨[(3,?m3u1),(4,?m4u1),(5,?m5u1),(6,?m6u1),(7,?m7u1)],?bu1,?o1u1⟩),([2,3],⟨[(3,?m3u1),(4,?m4u1),(5,?m5u1),(6,?m6u1),(7,?m7u1)],?bu1,?o2u1⟩),([2,3,4],⟨[(3,?m3u1),(4,?m4u1),(5,?m5u1),(6,?m6u1),(7,?m7u1)],?bu1,?o3u1⟩),([2,3,4,5],⟨[(3,?m3u1),(4,?m4u1),(5,?m5u1),(6,?m6u1),(7,?m7u1)],?bu1,?o4u1⟩)] ?hoku1 rfl rfl ?hbu1 ?hou1 ?hstu1 ?hku1
 case' hbu1=>rfl
 case' hou1=>rfl
 case' hstu1=>refine ⟨⟨?v0u1,?s0u1⟩,⟨⟨?v1u1,?s1u1⟩,⟨⟨?v2u1,?s2u1⟩,⟨⟨?v3u1,?s3u1⟩,⟨⟨?v4u1,?s4u1⟩,True.intro⟩⟩⟩⟩⟩
 case v0u1=>
  iterate 2 refine ⟨.inr ⟨_,rfl,zm (zY rfl rfl (by simp -dsimp [ze,zc,hb]<;>with_reducible rfl))⟩,?_⟩
  iterate 4 refine ⟨.inl (by kernel_rfl),?_⟩
  exact True.intro
 case' s0u1=>
  refine ⟨.inr ⟨_,_,rfl,rfl,zI (zfz (d:=5) (ρ:=[(1000000000,1000000002)]) (t:=2) (hR:=hc) (hp:=rfl) (hd:=rfl) (hdk:=rfl) (hc:=by simp -dsimp [ze,zc,hb]<;>(first|done|rfl|exact ⟨rfl,rfl⟩|exact ⟨rfl,rfl,rfl⟩)) (hx:=by simp -dsimp [ze,zc,hb]<;>with_reducible rfl) (ho:=by simp -dsimp [ze,zc,hb]) (hh:=by simp -dsimp [ze,zc,hb]) (hb:=by simp -dsimp [ze,zc,hb]) (h1:=by simp -dsimp [ze,zc,hb]<;>with_reducible rfl) (hv:=by simp -dsimp [ze,zc,hb]<;>with_reducible rfl) (hfix:= ?hf2k0u1)) (by simp -dsimp [ze,zQ,zao,zc,hb]<;>with_reducible rfl)⟩,?_⟩
  rotate_left
  iterate 3 refine ⟨.inl (by kernel_rfl),?_⟩
  exact True.intro
 case v1u1=>
  refine ⟨.inr ⟨_,rfl,zm (zY rfl rfl (by simp -dsimp [ze,zc,hb]<;>with_reducible rfl))⟩,?_⟩
  iterate 5 refine ⟨.inl (by kernel_rfl),?_⟩
  exact True.intro
 case s1u1=>
  refine ⟨.inl (by kernel_rfl),?_⟩
  refine ⟨.inr ⟨_,_,rfl,rfl,zI (zaK (hdk:=rfl) (hW:=rfl) (hq:=by simp -dsimp [ze,zc,hb]<;>(first|done|rfl|exact ⟨rfl,rfl⟩|exact ⟨rfl,rfl,rfl⟩)) (hoo:=rfl) (hv:=by simp -dsimp [ze,zc,hb]<;>with_reducible rfl)) (by simp -dsimp [ze,zQ,zao,zc,hb]<;>with_reducible rfl)⟩,?_⟩
  iterate 2 refine ⟨.inl (by kernel_rfl),?_⟩
  exact True.intro
 case v2u1=>
  refine ⟨.inr ⟨_,rfl,zm (zY rfl rfl (by simp -dsimp [ze,zc,hb]<;>with_reducible rfl))⟩,?_⟩
  iterate 5 refine ⟨.inl (by kernel_rfl),?_⟩
  exact True.intro
 case s2u1=>
  iterate 2 refine ⟨.inl (by kernel_rfl),?_⟩
  refine ⟨.inr ⟨_,_,rfl,rfl,zI (zaK (hdk:=rfl) (hW:=rfl) (hq:=by simp -dsimp [ze,zc,hb]<;>(first|done|rfl|exact ⟨rfl,rfl⟩|exact ⟨rfl,rfl,rfl⟩)) (hoo:=rfl) (hv:=by simp -dsimp [ze,zc,hb]<;>with_reducible rfl)) (by simp -dsimp [ze,zQ,zao,zc,hb]<;>with_reducible rfl)⟩,?_⟩
  refine ⟨.inl (by kernel_rfl),?_⟩
  exact True.intro
 case v3u1=>
  iterate 6 refine ⟨.inl (by kernel_rfl),?_⟩
  exact True.intro
 case s3u1=>
  iterate 3 refine ⟨.inl (by kernel_rfl),?_⟩
  refine ⟨.inr ⟨_,_,rfl,rfl,zI (zaK (hdk:=rfl) (hW:=rfl) (hq:=by simp -dsimp [ze,zc,hb]<;>(first|done|rfl|exact ⟨rfl,rfl⟩|exact ⟨rfl,rfl,rfl⟩)) (hoo:=rfl) (hv:=by simp -dsimp [ze,zc,hb]<;>with_reducible rfl)) (by simp -dsimp [ze,zQ,zao,zc,hb]<;>with_reducible rfl)⟩,?_⟩
  exact True.intro
 case v4u1=>
  iterate 6 refine ⟨.inl (by kernel_rfl),?_⟩
  exact True.intro
 case s4u1=>
  iterate 4 refine ⟨.inl (by kernel_rfl),?_⟩
  exact True.intro
 case s0u1=>simp -dsimp [ze,Av.ids,Cl.ids,zc,hb]
 case hoku1=>kernel_rfl
 refine ⟨rfl,?_⟩
 (repeat' (first|(with_reducible first|refine zj (fun _=>?_) (fun _=>?_)|refine zi (fun _=>?_) (fun _=>?_)|refine zk zb (by kernel_rfl) ?_|exact za rfl)|(simp -dsimp)));(all_goals try with_reducible refine za ?_)
 exact ⟨rfl,rfl⟩
end Go.Smd
end
section
namespace Go.Smd
open Go.RowKit
theorem Build.pop {α:Type}{R:World→(Nat→Prop)→α→List Value→Prop}{e size:Nat}{S T:Nat→Prop}{w:World}{g cap:Nat}{xs:List α}{y:α}(h:Build R e size S T w (.slice (some ⟨g,0,none⟩) (xs.length+1) cap) (xs++ [y])):Build R e size S T w (.slice (some ⟨g,0,none⟩) xs.length cap) xs:=by
 obtain ⟨cs,hrow,hS,hel⟩:=h
 have hxl:(xs++ [y]).length=xs.length+1:=by simp
 have hlen:xs.length*size≤cs.length:=by rw[hrow.1,hxl];exact Nat.mul_le_mul_right _ (by omega)
 refine ⟨cs.take (xs.length*size),⟨by rw[List.length_take];omega,?_⟩,fun k hk=>hS k hk,by rw[List.length_take];omega,fun j x hj=>?_⟩
 ·rcases hrow.2 with ⟨h0,_⟩|⟨g',cap',cur,h5,h6,h7,h8,h9,h10,h11⟩
  ·cases h0
  ·injection h5 with e1 e2 e3
   injection e1 with e1
   injection e1 with e1
   subst e1;subst e3
   refine .inr ⟨g,cap,cur,rfl,h6,h7,by omega,h9,h10,?_⟩
   rw[←h11,List.take_take,hxl]
   congr 1
   exact (Nat.min_eq_left (Nat.mul_le_mul_right _ (by omega))).symm
 ·have hjl:=(List.getElem?_eq_some_iff.1 hj).1
  have:=hel.2 j x (by rw[List.getElem?_append_left hjl];exact hj)
  have e1:((cs.take (xs.length*size)).drop (j*size)).take size=(cs.drop (j*size)).take size:=by
   have hm:j*size+size≤xs.length*size:=by rw[←Nat.succ_mul];exact Nat.mul_le_mul_right _ hjl
   apply List.ext_getElem?
   intro p
   simp only [List.getElem?_take,List.getElem?_drop]
   split
   ·rw[if_pos (by omega)]
   ·rfl
  rw[e1]
  exact this
section
variable {P:Program} {N:Nat} {w0:World} {S0:Env} {β:Nat→Value} {σ:St} {a:Act} {w:World}
theorem zcT {v u:Value}{E:TypeId}{xs:List (List D)}{ys:List Cl}{b:Nat}:occ v (.clo (.pin u E xs) ys) b↔bk v=some b:=by simp [occ,Ow.fp,Hd.fp]
theorem Sim.ownHas (s:Sim P N w0 S0 β σ a w){i id:Nat}{o:Ow}(hi:σ.h i=some o)(hid:id∈o.ids):(σ.h id).isSome=true:=by
 have h:=s.own i o hi
 cases o with
 |cells xs T=>
  obtain ⟨b,us,_,_,h3⟩:=h
  obtain ⟨x,hx,hq⟩:=List.mem_flatMap.1 hid
  obtain ⟨j,hj⟩:=List.getElem?_of_mem hx
  obtain ⟨u,_,hr⟩:=h3.at hj
  exact hr.has id hq
 |arr k E xs=>cases hid
 |clo f xs=>
  obtain ⟨us,_,h3⟩:=h
  obtain ⟨x,hx,hq⟩:=List.mem_flatMap.1 hid
  obtain ⟨j,hj⟩:=List.getElem?_of_mem hx
  obtain ⟨u,_,hr⟩:=h3.at hj
  exact hr.has id hq
theorem Sim.pinVal (s:Sim P N w0 S0 β σ a w){q:Nat}{v:Value}{E:TypeId}{xs:List (List D)}(hid:σ.h q=some (.clo (.pin v E xs) [])):β q=v:=by
 obtain ⟨us,⟨_,h,_⟩,_⟩:=s.own q _ hid
 exact h
theorem Sim.pinArr (s:Sim P N w0 S0 β σ a w){q d n:Nat}{v:Value}{E:TypeId}{xs:List (List D)}(hid:σ.h q=some (.clo (.pin v E xs) []))(hd:d=q∨σ.h d=none)(ht:∀t,q∉(σ.tmp t).ids)(hqo:∀i o,σ.h i=some o→q∉o.ids)(hk:∀o0,S0.h0 d=some o0→zav o0 (S0.β0 d) (.arr n E xs) v):
  Sim P N w0 S0 (fun i=>if i=d then v else β i) ((σ.del q).new d (.arr n E xs)) a w:=
 s.reown hid hd (fun b=>by rw[Z5,zcT,s.pinVal hid]) ht hqo hk (fun β' h' r=>by
  obtain ⟨us,⟨_,h1,h2⟩,_⟩:=r
  rw[←h1];exact h2) fun S S' β' h' hS r=>⟨r.1.frame (zr P) (fun _ _=>rfl) (fun _ _=>rfl) (fun _ h=>h) hS,r.2⟩
theorem Sim.arrPin (s:Sim P N w0 S0 β σ a w){q d n:Nat}{v:Value}{E:TypeId}{xs:List (List D)}(hid:σ.h q=some (.arr n E xs))(hv:β q=v)(hd:d=q∨σ.h d=none)(ht:∀t,q∉(σ.tmp t).ids)(hqo:∀i o,σ.h i=some o→q∉o.ids)(hk:∀o0,S0.h0 d=some o0→zav o0 (S0.β0 d) (.clo (.pin v E xs) []) v):
  Sim P N w0 S0 (fun i=>if i=d then v else β i) ((σ.del q).new d (.clo (.pin v E xs) [])) a w:=
 s.reown hid hd (fun b=>by rw[Z5,zcT,hv]) ht hqo hk (fun β' h' r=>⟨[],⟨rfl,rfl,by rw[←hv];exact r⟩,.nil⟩) fun S S' β' h' hS r=>by
  obtain ⟨us,h1,h2⟩:=r
  obtain ⟨rfl,_⟩:=id h1
  exact ⟨[],h1.mono hS,.nil⟩
theorem Sim.pinPop (s:Sim P N w0 S0 β σ a w){q d g cap:Nat}{E:TypeId}{xs:List (List D)}{y:List D}(hid:σ.h q=some (.clo (.pin (.slice (some ⟨g,0,none⟩) (xs.length+1) cap) E (xs++ [y])) []))(hd:d=q∨σ.h d=none)(ht:∀t,q∉(σ.tmp t).ids)(hqo:∀i o,σ.h i=some o→q∉o.ids)
  (hk:∀o0,S0.h0 d=some o0→zav o0 (S0.β0 d) (.clo (.pin (.slice (some ⟨g,0,none⟩) xs.length cap) E xs) []) (.slice (some ⟨g,0,none⟩) xs.length cap)):
  Sim P N w0 S0 (fun i=>if i=d then .slice (some ⟨g,0,none⟩) xs.length cap else β i) ((σ.del q).new d (.clo (.pin (.slice (some ⟨g,0,none⟩) xs.length cap) E xs) [])) a w:=
 s.reown hid hd (fun b=>by rw[zcT,zcT,s.pinVal hid];exact Iff.rfl) ht hqo hk (fun β' h' r=>by
  obtain ⟨us,⟨_,h1,h2,h3,h4⟩,_⟩:=r
  rw[h1] at h2
  refine ⟨[],⟨rfl,rfl,h2.pop,?_,fun x hx=>h4 x (by simp [hx])⟩,.nil⟩
  rw[List.length_append,List.length_singleton,Nat.add_mul] at h3
  omega) fun S S' β' h' hS r=>by
  obtain ⟨us,h1,h2⟩:=r
  obtain ⟨rfl,_⟩:=id h1
  exact ⟨[],h1.mono hS,.nil⟩
end
section
variable {P:Program} {N:Nat} {w0:World} {S0:Env} {β:Nat→Value} {σ:St} {a:Act} {w:World}
theorem Sim.fresh (s:Sim P N w0 S0 β σ a w){d:Nat}(hdn:σ.h d=none):(∀t,d∉(σ.tmp t).ids)∧∀i o,σ.h i=some o→d∉o.ids:=
 ⟨fun t h=>(by have:=(s.tmp t).has d h;rw[hdn] at this;cases this),fun i o hi h=>(by have:=s.ownHas hi h;rw[hdn] at this;cases this)⟩
theorem Sim.pinSd (s:Sim P N w0 S0 β σ a w){q d n:Nat}{v:Value}{E:TypeId}{xs:List (List D)}(hid:σ.h q=some (.clo (.pin v E xs) [])):∀b,Sd w0 S0 β σ.h w b→Sd w0 S0 (fun i=>if i=d then v else β i) ((σ.del q).new d (.arr n E xs)).h w b:=fun b hb=>⟨hb.1,hb.2.1,fun i o hi hc=>by
 rw[zt] at hi
 by_cases e:i=d
 ·simp only [e,if_true] at hi hc
  cases hi
  exact hb.2.2 q _ hid (zcT.2 (by rw[s.pinVal hid];exact Z5.1 hc))
 ·simp only [e,if_false,zel] at hi hc
  by_cases e2:i=q
  ·simp only [e2,if_true] at hi;cases hi
  ·simp only [e2,if_false] at hi
   exact hb.2.2 i o hi hc⟩
theorem Sim.pushRoom (s:Sim P N w0 S0 β σ a w){q d n g cap c:Nat}{T ty E:TypeId}{xs:List (List D)}{y:List D}{ds:List Value}{ad:Addr}(hT:P.elemT T=some E)(hE:P.appOk E=true)(hid:σ.h q=some (.clo (.pin (.slice (some ⟨g,0,none⟩) xs.length cap) E xs) []))(hroom:xs.length+1≤cap)
  (hd:d<zed) (hdn:σ.h d=none) (hn:n<zed) (hnn:σ.h n=none) (hnd:n≠d) (hb:(xs.length+1)*P.bytesOf E≤140737488351232) (hy:RDs P w (Sd w0 S0 β σ.h w) y ds) (hyl:y.length=P.cellsOf E) (hc:∀j u,ds[j]? =some u→w.cell? (ad.add j)=some u)
  (ht:∀t,q∉(σ.tmp t).ids) (hqo:∀i o,σ.h i=some o→q∉o.ids):
  ∃w' β',(Builtin.append_ #[T,T] ty #[.slice (some ⟨g,0,none⟩) xs.length cap,.slice (some ad) 1 c]).run P w= .ok (.slice (some ⟨g,0,none⟩) (xs.length+1) cap) w'∧
   Sim P N w0 S0 β' ((σ.del q).new d (.clo (.pin (.slice (some ⟨g,0,none⟩) (xs.length+1) cap) E (xs++ [y])) [])) a w':=by
 have hdz:∀o0,S0.h0 d=some o0→False:=fun o0 h=>by have:=(s.kept d o0 h).1;omega
 obtain ⟨nd,nod⟩:=s.fresh hdn
 have s1:=s.pinArr (d:=d) (n:=0) hid (.inr hdn) ht hqo fun o0 h=>(hdz o0 h).elim
 have hS1:=s.pinSd (d:=d) (n:=0) hid
 have h1:((σ.del q).new d (.arr 0 E xs)).h d=some (.arr 0 E xs):=by rw[zt];simp
 have hn1:((σ.del q).new d (.arr 0 E xs)).h n=none:=by rw[zt];simp [hnd,zel,hnn]
 obtain ⟨v',w',hrun,hcase⟩:=s1.push (ty:=ty) (c:=c) hT hE h1 hn hn1 hb (All2.imp hy fun x u _ r=>RepD.mono r hS1) hyl hc
 simp only [if_true] at hrun hcase
 rcases hcase with ⟨g',cap',e1,e2,e3,s2⟩|⟨h,_⟩
 ·injection e1 with e4 e5 e6
  injection e4 with e4
  injection e4 with e4
  subst e4;subst e6;subst e2
  have s3:=s2.arrPin (q:=d) (d:=d) (n:=0+1) (E:=E) (xs:=xs++ [y]) (v:=.slice (some ⟨g,0,none⟩) (xs.length+1) cap) (by rw[zt];simp) (by simp) (.inl rfl) nd (fun i o hi=>by
   rw[zt] at hi
   by_cases e:i=d
   ·simp only [e,if_true] at hi;cases hi;exact List.not_mem_nil
   ·simp only [e,if_false,zt,zel] at hi
    by_cases e2:i=q
    ·simp only [e2,if_true] at hi;cases hi
    ·simp only [e2,if_false] at hi;exact nod i o hi) fun o0 h=>(hdz o0 h).elim
  refine ⟨w',fun i=>if i=d then .slice (some ⟨g,0,none⟩) (xs.length+1) cap else if i=d then .slice (some ⟨g,0,none⟩) (xs.length+1) cap else if i=d then .slice (some ⟨g,0,none⟩) xs.length cap else β i,hrun,?_⟩
  refine Sim.eqv ?_ s3
  refine ⟨fun _=>rfl,?_⟩
  funext i
  simp only [zt,zel]
  by_cases e:i=d<;>simp [e]
 ·have:=h g cap rfl
  omega
theorem Sim.pushFull (s:Sim P N w0 S0 β σ a w){q d n c:Nat}{v:Value}{T ty E:TypeId}{xs:List (List D)}{y:List D}{ds:List Value}{ad:Addr}(hT:P.elemT T=some E)(hE:P.appOk E=true)(hid:σ.h q=some (.clo (.pin v E xs) []))(hfull:∀g cap,v= .slice (some ⟨g,0,none⟩) xs.length cap→cap<xs.length+1)
  (hd:d<zed) (hdn:σ.h d=none) (hn:n<zed) (hnn:σ.h n=none) (hnd:n≠d) (hb:(xs.length+1)*P.bytesOf E≤140737488351232) (hy:RDs P w (Sd w0 S0 β σ.h w) y ds) (hyl:y.length=P.cellsOf E) (hc:∀j u,ds[j]? =some u→w.cell? (ad.add j)=some u)
  (ht:∀t,q∉(σ.tmp t).ids) (hqo:∀i o,σ.h i=some o→q∉o.ids):
  ∃v' w' β',(Builtin.append_ #[T,T] ty #[v,.slice (some ad) 1 c]).run P w= .ok v' w'∧v'.oneCell'=true∧β' d=v'∧Sim P N w0 S0 β' (σ.new d (.arr 1 E (xs++ [y]))) a w':=by
 have hnz:∀o0,S0.h0 n=some o0→False:=fun o0 h=>by have:=(s.kept n o0 h).1;omega
 have hqn:q≠n:=fun e=>by rw[e,hnn] at hid;cases hid
 have hqd:q≠d:=fun e=>by rw[e,hdn] at hid;cases hid
 obtain ⟨nn,non⟩:=s.fresh hnn
 have s1:=s.pinArr (d:=n) (n:=0) hid (.inr hnn) ht hqo fun o0 h=>(hnz o0 h).elim
 have hS1:=s.pinSd (d:=n) (n:=0) hid
 have h1:((σ.del q).new n (.arr 0 E xs)).h n=some (.arr 0 E xs):=by rw[zt];simp
 have hd1:((σ.del q).new n (.arr 0 E xs)).h d=none:=by rw[zt];simp [Ne.symm hnd,zel,hdn]
 obtain ⟨v',w',hrun,hcase⟩:=s1.push (ty:=ty) (c:=c) hT hE h1 hd hd1 hb (All2.imp hy fun x u _ r=>RepD.mono r hS1) hyl hc
 simp only [if_true] at hrun hcase
 rcases hcase with ⟨g',cap',e1,e2,e3,s2⟩|⟨_,ho,s2⟩
 ·have:=hfull g' cap' e1
  omega
 ·have s3:=s2.arrPin (q:=n) (d:=q) (n:=0) (E:=E) (xs:=xs) (v:=v) (by rw[zt];simp [hnd,h1]) (by simp [hnd]) (.inr (by rw[zt];simp [hqd,hqn,zt,zel])) nn (fun i o hi=>by
   rw[zt] at hi
   by_cases e:i=d
   ·simp only [e,if_true] at hi;cases hi;exact List.not_mem_nil
   ·simp only [e,if_false,zt,zel] at hi
    by_cases e3:i=n
    ·simp only [e3,if_true] at hi;cases hi;exact List.not_mem_nil
    ·simp only [e3,if_false] at hi
     by_cases e2:i=q
     ·simp only [e2,if_true] at hi;cases hi
     ·simp only [e2,if_false] at hi;exact non i o hi) fun o0 h=>by
   have:=(s.kept q o0 h).2 _ hid
   rw[s.pinVal hid] at this
   exact this
  refine ⟨v',w',(fun i=>if i=q then v else if i=d then v' else if i=n then v else β i),hrun,ho,by simp [Ne.symm hqd],?_⟩
  ·refine Sim.eqv ?_ s3
   refine ⟨fun _=>rfl,?_⟩
   funext i
   simp only [zt,zel]
   by_cases e:i=q
   ·subst e;simp [hqd,hid]
   ·by_cases e2:i=n
    ·subst e2;simp [e,hnd,hnn]
    ·simp [e,e2]
end
def IsPin (v:Value)(k:Nat):Prop:=(v= .slice none 0 0∧k=0)∨∃g cap,v= .slice (some ⟨g,0,none⟩) k cap∧k≤cap
theorem IsPin.ok {v:Value}{k:Nat}(h:IsPin v k):z7 v=true:=by rcases h with ⟨rfl,_⟩|⟨g,cap,rfl,_⟩<;>rfl
theorem Build.isPin {α:Type}{R:World→(Nat→Prop)→α→List Value→Prop}{e size:Nat}{S T:Nat→Prop}{w:World}{v:Value}{xs:List α}(h:Build R e size S T w v xs):IsPin v xs.length:=by
 obtain ⟨cs,ho,_⟩:=h
 rcases ho.2 with ⟨rfl,h0⟩|⟨g,cap,cur,rfl,_,_,hn,_⟩
 ·exact .inl ⟨rfl,h0⟩
 ·exact .inr ⟨g,cap,rfl,hn⟩
def zjf (q:Nat)(v:Value):Av→Av
 | .c (.gs i k)=>if i=q then .c (.d (.v v)) else .c (.gs i k)
 |x=>x
theorem zoB {q:Nat}{v:Value}{x:Av}(h:q∉x.ids):zjf q v x=x:=by
 unfold zjf
 split
 ·next i k=>rw[if_neg fun e=>h (by simp [Av.ids,Cl.ids,e])]
 ·rfl
def Z6 (q:Nat)(o:Ow):List (Nat×Ow)→List (Nat×Ow)
 | []=>[]
 |(k,x)::l=>if k=q then (k,o)::Z6 q o l else (k,x)::Z6 q o l
theorem zaF (q:Nat)(o:Ow):∀(l:List (Nat×Ow)) (i:Nat),zd (Z6 q o l) i=if i=q then (zd l q).map (fun _=>o) else zd l i
 | [],i=>by simp [Z6,zd]
 |(k,x)::l,i=>by
  have ih:=zaF q o l i
  simp only [Z6]
  by_cases e:k=q
  ·subst e
   simp only [if_true,zd]
   by_cases e2:k=i
   ·subst e2;simp
   ·rw[if_neg e2,if_neg e2,ih]
    simp [Ne.symm e2]
  ·simp only [e,if_false,zd]
   by_cases e2:k=i
   ·subst e2;simp [e]
   ·simp only [e2,if_false]
    exact ih
section
variable {P:Program} {N:Nat} {w0:World} {S0:Env} {β:Nat→Value} {σ:St} {a:Act} {w:World}
theorem zhp {h h':Nat→Option Ow}(k:∀i o b,h' i=some o→occ (β i) o b→∃o',h i=some o'∧occ (β i) o' b):∀b,Sd w0 S0 β h w b→Sd w0 S0 β h' w b:=fun b hb=>⟨hb.1,hb.2.1,fun i o hi hc=>by
 obtain ⟨o',h1,h2⟩:=k i o b hi hc
 exact hb.2.2 i o' h1 h2⟩
theorem Sim.swapPin {own:List (Nat×Ow)}(s:Sim P N w0 S0 β ⟨[],own⟩ a w){q n:Nat}{E:TypeId}{xs:List (List D)}(hq:zd own q=some (.arr n E xs))(hids:∀i o,zd own i=some o→q∉o.ids)(hk:∀o0,S0.h0 q=some o0→zav o0 (S0.β0 q) (.clo (.pin (β q) E xs) []) (β q)):
  Sim P N w0 S0 β ⟨[],Z6 q (.clo (.pin (β q) E xs) []) own⟩ a w:=by
 have s1:=s.arrPin (q:=q) (d:=q) (v:=β q) hq rfl (.inl rfl) (fun t=>List.not_mem_nil) hids hk
 have e:(fun i=>if i=q then β q else β i)=β:=funext fun i=>by by_cases e:i=q<;>simp [e]
 rw[e] at s1
 refine Sim.eqv ?_ s1
 refine ⟨fun _=>rfl,?_⟩
 funext i
 rw[zt]
 simp only [zel]
 show _=zd (Z6 q _ own) i
 rw[zaF,hq]
 by_cases e:i=q
 ·simp [e]
 ·simp [e]<;>rfl
theorem Sim.swapArr {own:List (Nat×Ow)}(s:Sim P N w0 S0 β ⟨[],own⟩ a w){q n:Nat}{v:Value}{E:TypeId}{xs:List (List D)}(hq:zd own q=some (.clo (.pin v E xs) []))(hids:∀i o,zd own i=some o→q∉o.ids)(hk:∀o0,S0.h0 q=some o0→zav o0 (S0.β0 q) (.arr n E xs) v):
  Sim P N w0 S0 β ⟨[],Z6 q (.arr n E xs) own⟩ a w:=by
 have s1:=s.pinArr (q:=q) (d:=q) (n:=n) hq (.inl rfl) (fun t=>List.not_mem_nil) hids hk
 have hv:=s.pinVal hq
 have e:(fun i=>if i=q then v else β i)=β:=funext fun i=>by
  by_cases e:i=q
  ·simp [e,hv]
  ·simp [e]
 rw[e] at s1
 refine Sim.eqv ?_ s1
 refine ⟨fun _=>rfl,?_⟩
 funext i
 rw[zt]
 simp only [zel]
 show _=zd (Z6 q _ own) i
 rw[zaF,hq]
 by_cases e:i=q
 ·simp [e]
 ·simp [e]<;>rfl
end
theorem zei (q:Nat)(o o':Ow):∀l:List (Nat×Ow),Z6 q o (Z6 q o' l)=Z6 q o l
 | []=>rfl
 |(k,x)::l=>by
  simp only [Z6]
  by_cases e:k=q
  ·simp only [e,if_true,Z6];rw[zei q o o' l]
  ·simp only [e,if_false,Z6];rw[zei q o o' l]
theorem AProc.unpin {P:Program}{f:FuncId}{args:List Av}{own:List (Nat×Ow)}{R:Av→List (Nat×Ow)→Prop}{q n:Nat}{E:TypeId}{xs:List (List D)}(hq:zd own q=some (.arr n E xs))(hargs:∀x∈args,x= .c (.gs q n)∨q∉x.ids)(hids:∀i o,zd own i=some o→q∉o.ids)
  (h:∀v,IsPin v xs.length→AProc P f (args.map (zjf q v)) (Z6 q (.clo (.pin v E xs) []) own) fun r own'=>∃own2,own'=Z6 q (.clo (.pin v E xs) []) own2∧Z6 q (.arr n E xs) own2=own2∧R r own2∧(zd own2 q).isSome=true∧(∀i o,zd own2 i=some o→q∉o.ids)∧q∉r.ids):
  AProc P f args own R:=
 ⟨(h (.slice (some ⟨0,0,none⟩) xs.length xs.length) (.inr ⟨0,_,rfl,Nat.le_refl _⟩)).1,fun w E0 β vs s ha=>by
  have hB:=(s.own q _ hq).1
  have hv:=hB.isPin
  obtain ⟨E',hE'⟩:∃E':Env,E'=⟨E0.S,E0.K,fun i=>if i=q then none else E0.h0 i,E0.β0⟩:=⟨_,rfl⟩
  have s0:Sim P 0 w E' β ⟨[],own⟩ zhG w:=by
   rw[hE']
   exact ⟨s.ext,s.hK,fun i o0 hi=>by
    by_cases e:i=q
    ·simp [e] at hi
    ·simp only [e,if_false] at hi;exact s.kept i o0 hi,s.inj,s.new,s.own,s.tmp,s.sz,s.dfr⟩
  have hn0:E'.h0 q=none:=by rw[hE'];simp
  have s1:=s0.swapPin hq hids (fun o0 h=>by rw[hn0] at h;cases h)
  have hSd:∀β h w' b,Sd w E' β h w' b↔Sd w E0 β h w' b:=fun β h w' b=>by rw[hE'];exact Iff.rfl
  have hne:∀(l:List (Nat×Ow)) (o:Ow) (id:Nat),id≠q→zd (Z6 q o l) id=zd l id:=fun l o id e=>by rw[zaF,if_neg e]
  have hsw:∀b,Sd w E0 β (zd own) w b→Sd w E' β (zd (Z6 q (.clo (.pin (β q) E xs) []) own)) w b:=fun b hb=>(hSd _ _ _ _).2 (zhp (fun i o b hi hc=>by
   by_cases e:i=q
   ·subst e
    rw[zaF,if_pos rfl,hq] at hi
    cases hi
    exact ⟨_,hq,Z5.2 (zcT.1 hc)⟩
   ·rw[hne _ _ _ e] at hi
    exact ⟨o,hi,hc⟩) b hb)
  have ha':All2 (RepA P (Sd w E' β (zd (Z6 q (.clo (.pin (β q) E xs) []) own)) w) β (zd (Z6 q (.clo (.pin (β q) E xs) []) own)) w) (args.map (zjf q (β q))) vs:=by
   refine ZX ha fun x u hx r=>?_
   rcases hargs x hx with rfl|hx
   ·have r':RepC P (Sd w E0 β (zd own) w) β (zd own) w (.gs q n) u:=r
    obtain ⟨ver,E2,ys,h1,_,h3,_⟩:=r'
    rw[hq] at h1;cases h1
    have:zjf q (β q) (.c (.gs q n))= .c (.d (.v (β q))):=by simp [zjf]
    rw[this,h3 rfl]
    exact RepD.v hv.ok
   ·rw[zoB hx]
    exact r.congr hsw fun id hid=>⟨hne _ _ _ fun e=>hx (e▸hid),rfl⟩
  refine ((h _ hv).2 w E' β vs s1 ha').mono ?_
  rintro en w' ⟨u,r,β',own',h1,⟨own2,rfl,h2,h3,h4,h5,h6⟩,s',hr⟩
  obtain ⟨o2,ho2⟩:=Option.isSome_iff_exists.1 h4
  have hp:zd (Z6 q (.clo (.pin (β q) E xs) []) own2) q=some (.clo (.pin (β q) E xs) []):=by rw[zaF,if_pos rfl,ho2];rfl
  have hid2:∀i o,zd (Z6 q (.clo (.pin (β q) E xs) []) own2) i=some o→q∉o.ids:=fun i o hi=>by
   by_cases e:i=q
   ·subst e;rw[hp] at hi;cases hi;exact List.not_mem_nil
   ·rw[hne _ _ _ e] at hi;exact h5 i o hi
  have hval:β' q=β q:=s'.pinVal hp
  have s3:=s'.swapArr (n:=n) hp hid2 (fun o0 h=>by rw[hn0] at h;cases h)
  rw[zei,h2] at s3
  have hq2:zd own2 q=some (.arr n E xs):=by rw[←h2,zaF,if_pos rfl,ho2];rfl
  refine ⟨u,r,β',own2,h1,h3,⟨by rw[hE'] at s3;exact s3.ext,?_,fun i o0 hi=>?_,s3.inj,?_,?_,fun t=>trivial,s3.sz,s3.dfr⟩,?_⟩
  ·exact s.hK
  ·by_cases e:i=q
   ·subst e
    refine ⟨(s.kept i o0 hi).1,fun o ho=>?_⟩
    have ho:zd own2 i=some o:=ho
    rw[hq2] at ho;cases ho
    rw[hval]
    exact (s.kept i o0 hi).2 _ hq
   ·have:=s3.kept i o0 (by rw[hE'];simp [e,hi])
    rw[hE'] at this
    exact this
  ·rw[hE'] at s3;exact s3.new
  ·rw[hE'] at s3;exact s3.own
  ·refine hr.congr (fun b hb=>(hSd _ _ _ _).1 (zhp (fun i o b hi hc=>?_) b hb)) fun id hid=>⟨(hne _ _ _ fun e=>h6 (e▸hid)).symm,rfl⟩
   by_cases e:i=q
   ·subst e
    rw[hq2] at hi;cases hi
    exact ⟨_,hp,zcT.2 (Z5.1 hc)⟩
   ·exact ⟨o,by rw[hne _ _ _ e];exact hi,hc⟩⟩
theorem ziN {q:Nat}{o:Ow}:∀{l:List (Nat×Ow)},(∀p∈l,p.1=q→p.2=o)→Z6 q o l=l
 | [],_=>rfl
 |(k,x)::l,h=>by
  have ih:=ziN (q:=q) (o:=o) (l:=l) fun p hp=>h p (List.mem_cons_of_mem _ hp)
  simp only [Z6]
  by_cases e:k=q
  ·have h1:x=o:=h (k,x) (by simp) e
   rw[if_pos e,ih,h1]
  ·rw[if_neg e,ih]
theorem Sim.env {P:Program}{N:Nat}{w0:World}{S0:Env}{β:Nat→Value}{σ:St}{a:Act}{w:World}(s:Sim P N w0 S0 β σ a w){h0:Nat→Option Ow}{β0:Nat→Value}(k:∀id o0,h0 id=some o0→zed≤id∧∀o,σ.h id=some o→zav o0 (β0 id) o (β id)):Sim P N w0 ⟨S0.S,S0.K,h0,β0⟩ β σ a w:=
 ⟨s.ext,s.hK,k,s.inj,s.new,s.own,s.tmp,s.sz,s.dfr⟩
theorem AProc.pin {P:Program}{f:FuncId}{args:List Av}{own:List (Nat×Ow)}{R:Av→List (Nat×Ow)→Prop}{q n:Nat}{E:TypeId}{xs:List (List D)}(v:Value)(hz:zed≤q)(hq:zd own q=some (.arr n E xs))(hself:∀p∈own,p.1=q→p.2= .arr n E xs)(hargs:∀x∈args,x= .c (.gs q n)∨q∉x.ids)(hids:∀i o,zd own i=some o→q∉o.ids)
  (h:AProc P f args own fun r own2=>R r own2∧zd own2 q=some (.arr n E xs)∧(∀i o,zd own2 i=some o→q∉o.ids)∧q∉r.ids):
  AProc P f (args.map (zjf q v)) (Z6 q (.clo (.pin v E xs) []) own) fun r own'=>∃own2,R r own2∧own'=Z6 q (.clo (.pin v E xs) []) own2:=
 ⟨h.1,fun w E0 β vs s ha=>by
  have hp:zd (Z6 q (.clo (.pin v E xs) []) own) q=some (.clo (.pin v E xs) []):=by rw[zaF,if_pos rfl,hq];rfl
  have hval:β q=v:=s.pinVal hp
  have hne:∀(l:List (Nat×Ow)) (o:Ow) (id:Nat),id≠q→zd (Z6 q o l) id=zd l id:=fun l o id e=>by rw[zaF,if_neg e]
  have hid1:∀i o,zd (Z6 q (.clo (.pin v E xs) []) own) i=some o→q∉o.ids:=fun i o hi=>by
   by_cases e:i=q
   ·subst e;rw[hp] at hi;cases hi;exact List.not_mem_nil
   ·rw[hne _ _ _ e] at hi;exact hids i o hi
  have s0:=s.env (h0:=fun i=>if i=q then none else E0.h0 i) (β0:=E0.β0) fun i o0 hi=>by
   by_cases e:i=q
   ·simp [e] at hi
   ·simp only [e,if_false] at hi;exact s.kept i o0 hi
  have s1:=s0.swapArr (n:=n) hp hid1 fun o0 h=>by simp at h
  rw[zei,ziN hself] at s1
  have s2:=s1.env (h0:=fun i=>if i=q then some (.arr n E xs) else E0.h0 i) (β0:=fun i=>if i=q then v else E0.β0 i) fun i o0 hi=>by
   by_cases e:i=q
   ·subst e
    simp only [if_true] at hi ⊢
    cases hi
    refine ⟨hz,fun o ho=>?_⟩
    have ho:zd own i=some o:=ho
    rw[hq] at ho;cases ho
    rw[hval];exact zfi _ _
   ·simp only [e,if_false] at hi ⊢
    have:=s1.kept i o0 (by simp [e,hi])
    exact this
  have ha':All2 (RepA P (Sd w E0 β (zd own) w) β (zd own) w) args vs:=All2.of (by have:=ha.length;simpa using this) fun i x u hx hu=>by
   obtain ⟨u',hu',r⟩:=ha.at (i:=i) (x:=zjf q v x) (by rw[List.getElem?_map,hx];rfl)
   rw[hu] at hu';cases hu'
   rcases hargs x (List.mem_of_getElem? hx) with rfl|hx'
   ·have e1:zjf q v (.c (.gs q n))= .c (.d (.v v)):=by simp [zjf]
    rw[e1] at r
    have r':RepD P w (Sd w E0 β (zd (Z6 q (.clo (.pin v E xs) []) own)) w) (.v v) u:=r
    cases r' with
    |v hok=>
     refine (show RepC P (Sd w E0 β (zd own) w) β (zd own) w (.gs q n) v from ⟨n,E,xs,hq,Nat.le_refl _,fun _=>hval.symm,?_⟩)
     exact RepD.one (P:=P) (w:=w) (S:=fun _=>True) (RepD.v hok)
   ·rw[zoB hx'] at r
    refine r.congr (zhp fun i o b hi hc=>?_) fun id hid=>⟨(hne _ _ _ fun e=>hx' (e▸hid)).symm,rfl⟩
    by_cases e:i=q
    ·subst e
     rw[hq] at hi;cases hi
     exact ⟨_,hp,zcT.2 (Z5.1 hc)⟩
    ·exact ⟨o,by rw[hne _ _ _ e];exact hi,hc⟩
  refine (h.2 w _ β vs s2 ha').mono ?_
  rintro en w' ⟨u,r,β',own2,h1,⟨h2,h3,h4,h5⟩,s',hr⟩
  have hval':β' q=v:=by
   have:=(s'.kept q (.arr n E xs) (by simp)).2 _ h3
   simp only [if_true] at this
   exact this.2 rfl
  have s3:=s'.env (h0:=fun i=>if i=q then none else E0.h0 i) (β0:=E0.β0) fun i o0 hi=>by
   by_cases e:i=q
   ·simp [e] at hi
   ·simp only [e,if_false] at hi
    have:=s'.kept i o0 (by simp [e,hi])
    simp only [e,if_false] at this
    exact this
  have s4:=s3.swapPin h3 h4 fun o0 h=>by simp at h
  rw[hval'] at s4
  have hp2:zd (Z6 q (.clo (.pin v E xs) []) own2) q=some (.clo (.pin v E xs) []):=by rw[zaF,if_pos rfl,h3];rfl
  have s5:=s4.env (h0:=E0.h0) (β0:=E0.β0) fun i o0 hi=>by
   by_cases e:i=q
   ·subst e
    refine ⟨(s.kept i o0 hi).1,fun o ho=>?_⟩
    have ho:zd (Z6 i (.clo (.pin v E xs) []) own2) i=some o:=ho
    rw[hp2] at ho;cases ho
    have:=(s.kept i o0 hi).2 _ hp
    rw[hval] at this
    rw[hval'];exact this
   ·exact s4.kept i o0 (by simp [e,hi])
  refine ⟨u,r,β',_,h1,⟨own2,h2,rfl⟩,s5,?_⟩
  refine hr.congr (zhp fun i o b hi hc=>?_) fun id hid=>⟨hne _ _ _ fun e=>h5 (e▸hid),rfl⟩
  by_cases e:i=q
  ·subst e
   rw[hp2] at hi;cases hi
   exact ⟨_,h3,Z5.2 (zcT.1 hc)⟩
  ·exact ⟨o,by rw[←hne _ _ _ e];exact hi,hc⟩⟩
section
variable {P:Program} {N:Nat}
theorem zpS (ad:Addr)(n i:Nat):(ad.add (0*n)).add i=ad.add i:=by
 unfold Addr.add;simp
theorem Sim.rowIn {w0:World}{S0:Env}{β:Nat→Value}{σ:St}{a:Act}{w:World}(s:Sim P N w0 S0 β σ a w){r ver E:Nat}{row:List D}{u:Value}(hE:P.appOk E=true)(hr:σ.h r=some (.arr ver E [row]))(hu:RepC P (Sd w0 S0 β σ.h w) β σ.h w (.gs r ver) u):
  ∃ad c ds,u= .slice (some ad) 1 c∧RDs P w (Sd w0 S0 β σ.h w) row ds∧row.length=P.cellsOf E∧∀j x,ds[j]? =some x→w.cell? (ad.add j)=some x:=by
 obtain ⟨z,hi,hz,hp,hbp⟩:=zcd hE
 obtain ⟨hB,_,hlen⟩:=s.own r _ hr
 obtain ⟨ver',E',xs',h1,_,h3,_⟩:=hu
 rw[hr] at h1;cases h1
 have h3:=h3 rfl
 obtain ⟨A,c,hs,_,hrow⟩:=hB.done (zr P) hp
 obtain ⟨ad,cs,hA,_,hR,hl,hc⟩:=hrow 0 row rfl
 subst hA
 exact ⟨ad,c,cs,h3.trans hs,hR,hlen row (by simp),fun j x hj=>by rw[←hc j x hj,zpS ad (P.cellsOf E) j]⟩
theorem zmC {full base:List (Nat×Av)}{own own':List (Nat×Ow)}{o:Oper}{d q r n g m cap:Nat}{x z:Operand}{T E:TypeId}{xs:List (List D)}{row:List D}(n0:n<zed∧n≠d∧zd own n=none)
  (hop:o.op= .call { callee:=.builtin .append,args:= #[x,z],argTypes:= #[T,T] }) (hd:o.dst=some d) (hdk:Zd N o=true) (hdz:d<zed∧zd own d=none) (hT:P.elemT T=some E) (hE:P.appOk E=true) (hn:Zy P ⟨full++base,own⟩ o=none)
  (hx:(St.mk (full++base) own).ev x= .c (.d (.v (.slice (some ⟨g,0,none⟩) m cap)))) (hzv:(St.mk (full++base) own).ev z= .c (.gs r 0)) (hr:zd own r=some (.arr 0 E [row])) (hq:zd own q=some (.clo (.pin (.slice (some ⟨g,0,none⟩) m cap) E xs) []))
  (hm:xs.length=m) (hroom:m+1≤cap) (hb:(m+1)*P.bytesOf E≤140737488351232) (hfree:∀p∈full++base,q∉p.2.ids) (hfo:∀p∈own,q∉p.2.ids)
  (ho:(d,Ow.clo (.pin (.slice (some ⟨g,0,none⟩) (m+1) cap) E (xs++ [row])) [])::zbt (fun i=>decide (i≠q)) own=own') (hv:ze full base d= .c (.d (.v (.slice (some ⟨g,0,none⟩) (m+1) cap)))):Eff P N full base o own own':=fun σ e0 e1 e2 K hK=>by
 subst hm;subst ho
 refine ⟨hdk,?_⟩
 have n1:Zy P σ o=none:=by rw[zcg e1 (τ:=⟨full++base,own⟩) e0];exact hn
 have n2:Ze P σ o=none:=by unfold Ze;rw[n1]
 rw[zfn (by rw[hop];rfl),n2]
 refine .inr (.sem fun N' w0 S0 β a w s hd'=>?_)
 have e0':∀i,σ.h i=zd own i:=fun i=>congrFun e0 i
 have rx:=s.ev x;have rz:=s.ev z
 rw[e1 x (by rw[hop];simp [Op.operands,Call.operands]),hx] at rx
 rw[e1 z (by rw[hop];simp [Op.operands,Call.operands]),hzv] at rz
 have ex:=(ZL rx).1
 obtain ⟨ad,c,ds,ez,hR,hl,hc⟩:=s.rowIn hE (by rw[e0'];exact hr) rz
 have hids:∀t,q∉(σ.tmp t).ids:=fun t=>by
  have hl:∀{l:List (Nat×Av)},(∀p∈l,p∈full++base)→q∉((zd l t).getD .any).ids:=fun {l} hl=>by
   cases h:zd l t with
   |some y=>exact hfree _ (hl _ (Zn h))
   |none=>exact List.not_mem_nil
  rcases e2 t with h|h<;>rw[h]
  ·unfold ze
   have h1:=hl (l:=full) fun p hp=>List.mem_append_left _ hp
   have h2:=hl (l:=base) fun p hp=>List.mem_append_right _ hp
   cases h3:zd full t with
   |some y=>rw[h3] at h1;exact h1
   |none=>exact h2
  ·exact hl fun p hp=>List.mem_append_right _ hp
 obtain ⟨w',β',hrun,s2⟩:=s.pushRoom (q:=q) (d:=d) (n:=n) (ty:=o.type) (c:=c) (ds:=ds) (ad:=ad) hT hE (by rw[e0'];exact hq) hroom hdz.1 (by rw[e0'];exact hdz.2) n0.1 (by rw[e0'];exact n0.2.2) n0.2.1 hb hR hl hc hids (fun i oi hi=>by rw[e0'] at hi;exact hfo _ (Zn hi))
 unfold Oper.wp execOp
 simp only [hop,resolve,invoke,builtin,Sem.run_bind,Sem.run_pure,Result.andThen_ok,List.map_toArray,List.map_cons,List.map_nil,ex,ez,hrun]
 refine ⟨β',((σ.del q).new d (.clo (.pin (.slice (some ⟨g,0,none⟩) (xs.length+1) cap) E (xs++ [row])) [])).put o.dst (.c (.d (.v (.slice (some ⟨g,0,none⟩) (xs.length+1) cap)))),hK _ ?_ fun t=>?_,s2.put (Zc hd') (RepD.v rfl)⟩
 ·rw[ZG,zt]
  funext i
  simp only [zel,zd,e0',zgk]
  by_cases h1:i=d
  ·simp [h1]
  ·simp only [h1,Ne.symm h1,if_false]
   by_cases h2:i=q<;>simp [h2]
 ·rw[Zl,hd]
  by_cases h1:some d=some t
  ·cases h1;rw[if_pos rfl,if_pos rfl,hv]
  ·rw[if_neg h1,if_neg h1];rfl
theorem zmD {full base:List (Nat×Av)}{own own':List (Nat×Ow)}{o:Oper}{d q r n m:Nat}{v:Value}{x z:Operand}{T E:TypeId}{xs:List (List D)}{row:List D}(n0:n<zed∧n≠d∧zd own n=none)
  (hop:o.op= .call { callee:=.builtin .append,args:= #[x,z],argTypes:= #[T,T] }) (hd:o.dst=some d) (hdk:Zd N o=true) (hdz:d<zed∧zd own d=none) (hT:P.elemT T=some E) (hE:P.appOk E=true) (hn:Zy P ⟨full++base,own⟩ o=none)
  (hx:(St.mk (full++base) own).ev x= .c (.d (.v v))) (hzv:(St.mk (full++base) own).ev z= .c (.gs r 0)) (hr:zd own r=some (.arr 0 E [row])) (hq:zd own q=some (.clo (.pin v E xs) []))
  (hm:xs.length=m) (hfull:∀g cap,v= .slice (some ⟨g,0,none⟩) m cap→cap<m+1) (hb:(m+1)*P.bytesOf E≤140737488351232) (hfree:∀p∈full++base,q∉p.2.ids) (hfo:∀p∈own,q∉p.2.ids)
  (ho:(d,Ow.arr 1 E (xs++ [row]))::own=own') (hv:ze full base d= .c (.gs d 1)):Eff P N full base o own own':=fun σ e0 e1 e2 K hK=>by
 subst hm;subst ho
 refine ⟨hdk,?_⟩
 have n1:Zy P σ o=none:=by rw[zcg e1 (τ:=⟨full++base,own⟩) e0];exact hn
 have n2:Ze P σ o=none:=by unfold Ze;rw[n1]
 rw[zfn (by rw[hop];rfl),n2]
 refine .inr (.sem fun N' w0 S0 β a w s hd'=>?_)
 have e0':∀i,σ.h i=zd own i:=fun i=>congrFun e0 i
 have rx:=s.ev x;have rz:=s.ev z
 rw[e1 x (by rw[hop];simp [Op.operands,Call.operands]),hx] at rx
 rw[e1 z (by rw[hop];simp [Op.operands,Call.operands]),hzv] at rz
 have ex:=(ZL rx).1
 obtain ⟨ad,c,ds,ez,hR,hl,hc⟩:=s.rowIn hE (by rw[e0'];exact hr) rz
 have hids:∀t,q∉(σ.tmp t).ids:=fun t=>by
  have hl:∀{l:List (Nat×Av)},(∀p∈l,p∈full++base)→q∉((zd l t).getD .any).ids:=fun {l} hl=>by
   cases h:zd l t with
   |some y=>exact hfree _ (hl _ (Zn h))
   |none=>exact List.not_mem_nil
  rcases e2 t with h|h<;>rw[h]
  ·unfold ze
   have h1:=hl (l:=full) fun p hp=>List.mem_append_left _ hp
   have h2:=hl (l:=base) fun p hp=>List.mem_append_right _ hp
   cases h3:zd full t with
   |some y=>rw[h3] at h1;exact h1
   |none=>exact h2
  ·exact hl fun p hp=>List.mem_append_right _ hp
 obtain ⟨v',w',β',hrun,h1c,hβ,s2⟩:=s.pushFull (q:=q) (d:=d) (n:=n) (ty:=o.type) (c:=c) (ds:=ds) (ad:=ad) hT hE (by rw[e0'];exact hq) hfull hdz.1 (by rw[e0'];exact hdz.2) n0.1 (by rw[e0'];exact n0.2.2) n0.2.1 hb hR hl hc hids (fun i oi hi=>by rw[e0'] at hi;exact hfo _ (Zn hi))
 unfold Oper.wp execOp
 simp only [hop,resolve,invoke,builtin,Sem.run_bind,Sem.run_pure,Result.andThen_ok,List.map_toArray,List.map_cons,List.map_nil,ex,ez,hrun]
 refine ⟨β',(σ.new d (.arr 1 E (xs++ [row]))).put o.dst (.c (.gs d 1)),hK _ ?_ fun t=>?_,s2.put (Zc hd') ⟨1,E,xs++ [row],by rw[zt];simp,Nat.le_refl _,fun _=>hβ.symm,h1c⟩⟩
 ·rw[ZG,zt]
  funext i
  simp only [zd,e0']
  by_cases h1:i=d
  ·simp [h1]
  ·simp only [h1,Ne.symm h1,if_false]
 ·rw[Zl,hd]
  by_cases h1:some d=some t
  ·cases h1;rw[if_pos rfl,if_pos rfl,hv]
  ·rw[if_neg h1,if_neg h1];rfl
end
def zwW (S0:Env)(own:List (Nat×Ow)):Prop:=∀q v E xs,zd own q=some (.clo (.pin v E xs) [])→∀o0,S0.h0 q=some o0→zav o0 (S0.β0 q) (.clo (.pin v E xs) []) v
theorem zue {P:Program}{N:Nat}{w0:World}{S0:Env}{β:Nat→Value}{tl:List (Nat×Av)}{own:List (Nat×Ow)}{a:Act}{w:World}(s:Sim P N w0 S0 β ⟨tl,own⟩ a w):zwW S0 own:=fun q v E xs hq o0 h0=>by
 have h:=(s.kept q o0 h0).2 _ hq
 rw[s.pinVal hq] at h
 exact h
theorem zcX {P:Program}{f:FuncId}{fn:Func}{c:Code}{args:List Av}{own:List (Nat×Ow)}{R:Av→List (Nat×Ow)→Prop}{N:Nat}{rs:List ResultVar}(sc:Sch)(hf:P.funcs[f]? =some fn)(hn:(fn.name== "runtime.NumGoroutine")=false)(hb:fn.body=some c)(hN:fn.ntmps=N)(hrs:fn.results=rs.toArray)(hl:args.length≤N)
  (h:(∀x∈args,x.isD=true→okA P x)→∀w0 S0,zwW S0 own→ex P N w0 S0 (zjJ P rs R) sc [.code c] () 100000 ⟨ZZ 0 args,own⟩):AProc P f args own R:=
 zfH hf hn hb hN hrs hl fun hok w0 S0=>fun β a w s=>((zlW (h hok w0 S0 (zue s))).mono fun _ _=>zh7) β a w s
section
variable {P:Program} {N:Nat} {w0:World} {S0:Env} {σ:St}
theorem Weak.pinPop {q d g cap m:Nat}{E:TypeId}{xs:List (List D)}{y:List D}(hid:σ.h q=some (.clo (.pin (.slice (some ⟨g,0,none⟩) (m+1) cap) E (xs++ [y])) []))(hm:xs.length=m)(hd:σ.h d=none)(ht:∀p∈σ.tmps,q∉p.2.ids)(hqo:∀p∈σ.own,q∉p.2.ids)
  (hk:∀o0,S0.h0 d=some o0→zav o0 (S0.β0 d) (.clo (.pin (.slice (some ⟨g,0,none⟩) m cap) E xs) []) (.slice (some ⟨g,0,none⟩) m cap)):Weak P N w0 S0 σ ((σ.del q).new d (.clo (.pin (.slice (some ⟨g,0,none⟩) m cap) E xs) [])):=fun β a w s=>by
 subst hm
 refine ⟨_,s.pinPop hid (.inr hd) (fun t=>?_) (fun i o hi=>hqo _ (Zn hi)) hk⟩
 unfold St.tmp
 cases h:zd σ.tmps t with
 |some y=>exact ht _ (Zn h)
 |none=>exact List.not_mem_nil
theorem zsk {Q:Exit→St→Prop}{sc:Sch}{k:List Fr}{n i:Nat}{l:List Oper}{tl:List (Nat×Av)}{hl:List (Nat×Ow)}{t:Tg (P,N,w0,S0,Q,sc,k,l,n,tl,hl)}(h:AWp P N w0 S0 (.region i l.toArray true) (fun e σ=>e= .normal∧∃σ',Weak P N w0 S0 σ σ'∧ex P N w0 S0 Q sc k () 100000 σ') ⟨tl,hl⟩):exD P N w0 S0 Q sc k i l n tl hl t none:=by
 refine (show AWp P N w0 S0 (.region i l.toArray true) (KQ P N w0 S0 Q k) ⟨tl,hl⟩ from fun β a w s=>Code.wp_mono ?_ (h β a w s))
 rintro e a' w' ⟨β',σ1,⟨rfl,σ',hw,q⟩,s'⟩
 obtain ⟨β2,s2⟩:=hw β' a' w' s'
 exact ⟨β2,σ',Z3 _ _ _ q,s2⟩
end
end Go.Smd
end
section
namespace Go.Smd
open Go.RowKit Go.Proofs Go.Proofs.Tryz
abbrev tFP:TypeId:=211
abbrev tLP:TypeId:=149
theorem zv2 (v:Value)(ver:Nat)(R:List (List D))(p:List EV)(hp:∀e∈p,GoodE e)(hl:p.length*168≤140737488351232)(hb:(R.length+1)*24≤140737488351232):
  AProc prog 146 [.c (.d (.v v)),.c (.own 1000000000 0)] [(1000000000,.cells [.gs 1000000001 ver] zdr),(1000000001,.arr ver tSP R),(1000000002,.clo (.pin v tPE (p.map eD)) [])]
   (fun r own'=>r= .tup []∧own'= [(6,.arr 0 tSP [[z9 (p.map cE)]]),(1000000000,.cells [.gs 1000000001 (ver+1)] zdr),(1000000001,.arr (ver+1) tSP (R++ [[z9 (p.map cE)]])),(1000000002,.clo (.pin v tPE (p.map eD)) [])]):=by
 have h:=zv1 0 ver R p hp hl hb
 refine (AProc.pin (R:=fun r o=>r= .tup []∧o= [(6,.arr 0 tSP [[z9 (p.map cE)]]),(1000000000,.cells [.gs 1000000001 (ver+1)] zdr),(1000000001,.arr (ver+1) tSP (R++ [[z9 (p.map cE)]])),(1000000002,.arr 0 tPE (p.map eD))]) (q:=1000000002) (n:=0) (E:=tPE) (xs:=p.map eD) v (by decide) rfl (by simp) (by simp [Av.ids,Cl.ids]) ?_ (h.mono fun r o ⟨h1,h2⟩=>?_)).mono ?_
 ·intro i o hi
  have:=Zn hi
  simp only [List.mem_cons,List.not_mem_nil,or_false,Prod.mk.injEq] at this
  rcases this with ⟨_,rfl⟩|⟨_,rfl⟩|⟨_,rfl⟩<;>simp [Ow.ids,Cl.ids]
 ·subst h1;subst h2
  refine ⟨⟨rfl,rfl⟩,rfl,fun i o hi=>?_,by simp [Av.ids]⟩
  have:=Zn hi
  simp only [List.mem_cons,List.not_mem_nil,or_false,Prod.mk.injEq] at this
  rcases this with ⟨_,rfl⟩|⟨_,rfl⟩|⟨_,rfl⟩|⟨_,rfl⟩<;>simp [Ow.ids,Cl.ids]
 ·rintro r own' ⟨own2,⟨h1,h2⟩,h3⟩
  subst h2
  exact ⟨h1,h3⟩
end Go.Smd
end
