/- Part 43. -/
import Derived.Test.YtdgnolbdcmgfoaaGreatQD42
import Derived.Test.YtdgnolbdcmgfoaaGreatQD40
import Derived.Test.YtdgnolbdcmgfoaaGreatQD36
set_option linter.unusedVariables false
set_option linter.unusedSimpArgs false
set_option maxRecDepth 100000
set_option maxHeartbeats 8000000
section
namespace Go.Smd
open Go.RowKit Go.Proofs Go.Proofs.Tryz
theorem zv6 (N M:Nat)(hN:N≤1000000000000)(hM:M≤1000000000000)(ms ms':List EV)(ks ks':PK)(ok:OkS N (.mk ms ks))(ok':OkS M (.mk ms' ks'))(h:∀s∈ks.ss,∀t∈ks'.ss,CRd s t):CRd (.mk ms ks) (.mk ms' ks'):=by
 have ok0:=ok'
 simp only [OkS] at ok ok'
 have c1:=ACalls.pre2 (ys:=[.sl tSN (pkD ks)]) (ys':=[.sl tSN (pkD ks')]) (zui ms ms' (by omega) ok.1 ok'.1 ok.2.1 ok'.2.1)
 have c2:=zwY ks M hM ms' ks' ok0 (by omega) ok.2.2.2.1 ok.2.2.2.2.1 h fun s hs t _=>zdK N (by omega) _ (zoE oRd s (ok.2.2.2.2.2.2.all s hs) t).1
 simp only [List.cons_append,List.nil_append] at c1
 unfold CRd
 have e1:psD (opS oRd (.mk ms ks) (.mk ms' ks'))= [.sl tPE ((ms.filter fun e=> !zah e ms').map eD),.sl tSN (pkD (opK oRd ks (.mk ms' ks')))]:=by
  simp only [opS];exact zcI _ _
 rw[e1,zcI,zcI]
 rw[zcI] at c2
 generalize ms.map eD=A at c1 c2 ⊢
 generalize ms'.map eD=B at c1 c2 ⊢
 generalize (ms.filter fun e=> !zah e ms').map eD=A2 at c1 ⊢
 generalize pkD (opK oRd ks (.mk ms' ks'))=B2 at c2 ⊢
 refine zf [(1,([],[(0,[]),(1,[]),(2,[]),(3,[]),(4,[]),(5,[]),(9,[]),(10,[]),(11,[]),(12,[]),(6,[]),(7,[]),(8,[]),(13,[]),(14,[]),(15,[]),(16,[]),(17,[]),(18,[])]))] func90 (by kernel_rfl) rfl ntmps90 results90 (Nat.le_of_ble_eq_true (by kernel_rfl)) ?_;intro hok w0 S0
 clear hok
 (repeat' (first|(with_reducible first|refine zj (fun _=>?_) (fun _=>?_)|refine zi (fun _=>?_) (fun _=>?_)|refine zl (c1) (by first|rfl|(simp -dsimp;done)) ?_|(refine zx (c1) rfl ?_ ?_ ?_;iterate 2 exact by first|rfl|(simp -dsimp;done))|refine zl (c2) (by first|rfl|(simp -dsimp;done)) ?_|(refine zx (c2) rfl ?_ ?_ ?_;iterate 2 exact by first|rfl|(simp -dsimp;done))|refine zk zb (by kernel_rfl) ?_|exact za rfl)|(simp -dsimp)));(all_goals try with_reducible refine za ?_)
theorem znS (N M:Nat)(hN:N≤1000000000000)(hM:M≤1000000000000):∀s:PS,OkS N s→∀t:PS,OkS M t→CRd s t:=
 zgG fun ms ks ih ok t ok'=>by
  obtain ⟨ms',ks'⟩:=t
  refine zv6 N M hN hM ms ms' ks ks' ok ok' fun s hs t ht=>ih s hs ?_ t ?_
  ·simp only [OkS] at ok;exact ok.2.2.2.2.2.2.all s hs
  ·simp only [OkS] at ok';exact ok'.2.2.2.2.2.2.all t ht
theorem zuk (N:Nat)(hN:N≤3000000000000)(ms:List EV)(ks:PK)(ok:OkS N (.mk ms ks))(h:∀s∈ks.ss,CIter s):CIter (.mk ms ks):=by
 intro v ver R p hv hp hd hb
 simp only [OkS] at ok
 simp only [PS.depth] at hd
 simp only [PS.size] at hb ⊢
 simp only [PS.list]
 have c1:=(zsn v ver R p ms hv hp ok.1 (by omega) (by omega) (by omega)).pre1 (ys:=[.sl tSN (pkD ks)])
 have hRl:(R++zeO p ms).length=R.length+ms.length:=by simp
 have c2':=fun (v':Value) (hv':IsPin v' p.length)=>zuh ks v' (ver+ms.length) (R++zeO p ms) p hv' hp (by omega) (by omega) (by rw[hRl];omega) ok.2.2.2.1 h
 have c2:=c2' v hv
 have c3:=ziQ 0 c2'
 have e1:R++zeO p ms++zcF p ks.list=R++zcF p (ms.map (fun e=>[e])++ks.list):=by rw[zpT,zcF,zcF,zcF,List.map_append,List.append_assoc]
 have e2:ver+ms.length+ks.size=ver+(ms.length+ks.size):=by omega
 rw[e1,e2] at c2 c3
 obtain ⟨R2,hR2⟩:∃R2,R2=R++zcF p (ms.map (fun e=>[e])++ks.list):=⟨_,rfl⟩
 obtain ⟨R1,hR1⟩:∃R1,R1=R++zeO p ms:=⟨_,rfl⟩
 obtain ⟨V1,hV1⟩:∃V1,V1=ver+ms.length:=⟨_,rfl⟩
 obtain ⟨V2,hV2⟩:∃V2,V2=ver+(ms.length+ks.size):=⟨_,rfl⟩
 rw[←hR1,←hV1] at c1 c2 c3
 rw[←hR2,←hV2] at c2 c3
 rw[←hR2,←hV2,zcI]
 simp only [List.cons_append,List.nil_append] at c1
 unfold zll at c1
 unfold zgc at c2 ⊢
 obtain ⟨X,hX⟩:∃X,X=p.map eD:=⟨_,rfl⟩
 rw[←hX] at c1 c2 ⊢
 clear c2'
 refine AProc.drop (R:=fun r o=>r= .tup []∧∀p∈ [(1000000002,Ow.cells [.gs 1000000003 V2] zdr),(1000000003,.arr V2 tSP R2),(1000000004,zeN),(1000000005,.clo (.pin v tPE X) [])],zd o p.1=some p.2) ?_ fun r o h=>⟨_,⟨h.1,rfl⟩,h.2,by first|rfl|(simp [zg,Av.ids,Ow.ids,Cl.ids,Go.Smd.keys];done),by rw[h.1];rfl⟩
 have lf:prog.lay tFP=some (1,false):=by kernel_rfl
 have ct:ZP prog tFP= [none]:=by kernel_rfl
 have ct2:ZP prog 255= [none]:=by kernel_rfl
 rcases id hv with ⟨rfl,h0⟩|⟨g,cap,rfl,hcap⟩
 ·have hp0:p= []:=List.eq_nil_of_length_eq_zero h0
  subst hp0
  have hX0:X= []:=hX
  subst hX0
  unfold zmH at c3
  simp only [List.map_nil] at c3
  generalize ms.map eD=A at c1 ⊢
  refine zcX [] func195 (by kernel_rfl) rfl ntmps195 results195 (Nat.le_of_ble_eq_true (by kernel_rfl)) ?_;intro hok w0 S0 hpin
  (repeat' (first|(with_reducible first|refine zj (fun _=>?_) (fun _=>?_)|refine zi (fun _=>?_) (fun _=>?_))|((with_reducible apply zcH (ρ:=[(1000000000,5),(1000000001,4),(1000000002,1000000002),(1000000003,1000000003),(1000000004,1000000004),(1000000005,1000000005),(1000000006,9)]) 7 (c1));(case hc=>simp -dsimp [ct2]<;>first|exact ⟨rfl,rfl,rfl⟩|exact ⟨rfl,rfl⟩|done);(case hx=>simp -dsimp [ct2]<;>with_reducible rfl);(case ho=>simp -dsimp [ct2]);(case hh=>simp -dsimp [ct2]);(case hb=>simp -dsimp [ct2]))|(with_reducible first|refine zk zb (by kernel_rfl) ?_|exact za rfl)|(simp -dsimp [ct2])));(all_goals try with_reducible refine za ?_)
  refine zv4 (t':=()) (tl':=[(0,.c (.d (.pt [.sl tPE A,.sl tSN (pkD ks)]))),(4,.c (.own 4 0)),(5,.c (.own 5 0))]) (hl':=[(77,.arr 0 tPE []),(4,.cells [.gs 77 0] tLP),(5,.cells [.fn 1000000004] tFP),(1000000002,.cells [.gs 1000000003 V1] zdr),(1000000003,.arr V1 tSP R1),(1000000004,zeN),(1000000005,.clo (.pin (.slice none 0 0) tPE []) [])]) (Weak.trans (Weak.adopt (z:=4) (id:=77) (T:=tLP) (E:=tPE) rfl rfl (by decide)) ?_) ?_
  ·exact Weak.same (by simp -dsimp) (by simp -dsimp) (by first|rfl|(simp [zg,Av.ids,Ow.ids,Cl.ids,Go.Smd.keys];done))
  ·refine zcB ?_
   refine Zz zb [[],[0],[0,1],[],[],[0,1,2,3,4]] [0,1,2,3,4,5] [5] [([],⟨[(11,?m11u1),(12,?m12u1),(13,?m13u1),(14,?m14u1),(15,?m15u1),(16,?m16u1)],?bu1,?o0u1⟩),([5],⟨[(11,?m11u1),(12,?m12u1),(13,?m13u1),(14,?m14u1),(15,?m15u1),(16,?m16u1)],?bu1,?o1u1⟩)] ?hoku1 rfl rfl ?hbu1 ?hou1 ?hstu1 ?hku1
   case' hbu1=>rfl
   case' hou1=>rfl
   case' hstu1=>refine ⟨⟨?v0u1,?s0u1⟩,⟨⟨?v1u1,?s1u1⟩,True.intro⟩⟩
   case v0u1=>
    iterate 5 refine ⟨.inr ⟨_,rfl,zm (zY rfl rfl (by simp -dsimp [ze,lf,ct]<;>with_reducible rfl))⟩,?_⟩
    refine ⟨.inl (by kernel_rfl),?_⟩
    exact True.intro
   case' s0u1=>
    refine ⟨.inr ⟨_,_,rfl,rfl,zI (zrh (d:=16) (ρ:=[(1000000002,1000000002),(1000000003,1000000003),(1000000004,1000000004),(1000000005,77)]) (t:=5) (hR:=c3) (hp:=rfl) (hd:=rfl) (hdk:=rfl) (hc:=by simp -dsimp [ze,lf,ct]<;>(first|done|rfl|exact ⟨rfl,rfl⟩|exact ⟨rfl,rfl,rfl⟩)) (hx:=by simp -dsimp [ze,lf,ct]<;>with_reducible rfl) (ho:=by simp -dsimp [ze,lf,ct]) (hh:=by simp -dsimp [ze,lf,ct]) (hb:=by simp -dsimp [ze,lf,ct]) (h1:=by simp -dsimp [ze,lf,ct]<;>with_reducible rfl) (hv:=by simp -dsimp [ze,lf,ct]<;>with_reducible rfl) (hfix:= ?hf5k0u1)) (by simp -dsimp [ze,zQ,zao,lf,ct]<;>with_reducible rfl)⟩,?_⟩
    rotate_left
    exact True.intro
   case v1u1=>
    iterate 6 refine ⟨.inl (by kernel_rfl),?_⟩
    exact True.intro
   case s1u1=>
    refine ⟨.inl (by kernel_rfl),?_⟩
    exact True.intro
   case s0u1=>simp -dsimp [ze,lf,ct]
   case hoku1=>kernel_rfl
   refine ⟨rfl,?_⟩
   (repeat' (first|(with_reducible first|refine zj (fun _=>?_) (fun _=>?_)|refine zi (fun _=>?_) (fun _=>?_)|refine zk zb (by kernel_rfl) ?_|exact za rfl)|(simp -dsimp)));(all_goals try with_reducible refine za ?_)
   exact ⟨rfl,by simp [zd]⟩
 ·refine zcX [] func195 (by kernel_rfl) rfl ntmps195 results195 (Nat.le_of_ble_eq_true (by kernel_rfl)) ?_;intro hok w0 S0 hpin
  (repeat' (first|(with_reducible first|refine zj (fun _=>?_) (fun _=>?_)|refine zi (fun _=>?_) (fun _=>?_))|((with_reducible apply zcH (ρ:=[(1000000000,5),(1000000001,4),(1000000002,1000000002),(1000000003,1000000003),(1000000004,1000000004),(1000000005,1000000005),(1000000006,9)]) 7 (c1));(case hc=>simp -dsimp [ct2]<;>first|exact ⟨rfl,rfl,rfl⟩|exact ⟨rfl,rfl⟩|done);(case hx=>simp -dsimp [ct2]<;>with_reducible rfl);(case ho=>simp -dsimp [ct2]);(case hh=>simp -dsimp [ct2]);(case hb=>simp -dsimp [ct2]))|(with_reducible first|refine zk zb (by kernel_rfl) ?_|exact za rfl)|(simp -dsimp [ct2])));(all_goals try with_reducible refine za ?_)
  refine zcB ?_
  refine Zz zb [[],[0],[0,1],[],[],[0,1,2,3,4]] [0,1,2,3,4,5] [5] [([],⟨[(11,?m11u2),(12,?m12u2),(13,?m13u2),(14,?m14u2),(15,?m15u2),(16,?m16u2)],?bu2,?o0u2⟩),([5],⟨[(11,?m11u2),(12,?m12u2),(13,?m13u2),(14,?m14u2),(15,?m15u2),(16,?m16u2)],?bu2,?o1u2⟩)] ?hoku2 rfl rfl ?hbu2 ?hou2 ?hstu2 ?hku2
  case' hbu2=>rfl
  case' hou2=>rfl
  case' hstu2=>refine ⟨⟨?v0u2,?s0u2⟩,⟨⟨?v1u2,?s1u2⟩,True.intro⟩⟩
  case v0u2=>
   iterate 5 refine ⟨.inr ⟨_,rfl,zm (zY rfl rfl (by simp -dsimp [ze,lf,ct]<;>with_reducible rfl))⟩,?_⟩
   refine ⟨.inl (by kernel_rfl),?_⟩
   exact True.intro
  case' s0u2=>
   refine ⟨.inr ⟨_,_,rfl,rfl,zI (zrh (d:=16) (ρ:=[(1000000002,1000000002),(1000000003,1000000003),(1000000004,1000000004),(1000000005,1000000005)]) (t:=5) (hR:=c2) (hp:=rfl) (hd:=rfl) (hdk:=rfl) (hc:=by simp -dsimp [ze,lf,ct]<;>(first|done|rfl|exact ⟨rfl,rfl⟩|exact ⟨rfl,rfl,rfl⟩)) (hx:=by simp -dsimp [ze,lf,ct]<;>with_reducible rfl) (ho:=by simp -dsimp [ze,lf,ct]) (hh:=by simp -dsimp [ze,lf,ct]) (hb:=by simp -dsimp [ze,lf,ct]) (h1:=by simp -dsimp [ze,lf,ct]<;>with_reducible rfl) (hv:=by simp -dsimp [ze,lf,ct]<;>with_reducible rfl) (hfix:= ?hf5k0u2)) (by simp -dsimp [ze,zQ,zao,lf,ct]<;>with_reducible rfl)⟩,?_⟩
   rotate_left
   exact True.intro
  case v1u2=>
   iterate 6 refine ⟨.inl (by kernel_rfl),?_⟩
   exact True.intro
  case s1u2=>
   refine ⟨.inl (by kernel_rfl),?_⟩
   exact True.intro
  case s0u2=>simp -dsimp [ze,lf,ct]
  case hoku2=>kernel_rfl
  refine ⟨rfl,?_⟩
  (repeat' (first|(with_reducible first|refine zj (fun _=>?_) (fun _=>?_)|refine zi (fun _=>?_) (fun _=>?_)|refine zk zb (by kernel_rfl) ?_|exact za rfl)|(simp -dsimp)));(all_goals try with_reducible refine za ?_)
  exact ⟨rfl,by simp [zd]⟩
theorem zul (N:Nat)(hN:N≤3000000000000):∀s:PS,OkS N s→CIter s:=
 zgG fun ms ks ih ok=>zuk N hN ms ks ok fun s hs=>ih s hs (by simp only [OkS] at ok;exact ok.2.2.2.2.2.2.all s hs)
theorem zpV {P:Program}{f:FuncId}{fn:Func}{c:Code}{args:List Av}{own:List (Nat×Ow)}{R:Av→List (Nat×Ow)→Prop}{N:Nat}{rs:List ResultVar}(sc:Sch)(hf:P.funcs[f]? =some fn)(hn:(fn.name== "runtime.NumGoroutine")=false)(hb:fn.body=some c)(hN:fn.ntmps=N)(hrs:fn.results=rs.toArray)(hl:args.length≤N)
  (h:(∀x∈args,x.isD=true→okA P x)→∀w0 S0,∃σ',Weak P N w0 S0 ⟨ZZ 0 args,own⟩ σ'∧ex P N w0 S0 (zjJ P rs R) sc [.code c] () 100000 σ'):AProc P f args own R:=
 zfH hf hn hb hN hrs hl fun hok w0 S0=>fun β a w s=>by
  obtain ⟨σ',hw,hx⟩:=h hok w0 S0
  exact (AWp.weak hw ((zlW hx).mono fun _ _=>zh7)) β a w s
abbrev zoH:Ow:=.clo (.fn 146) [.own 1000000000 0]
theorem zlo (N:Nat)(hN:N≤3000000000000)(s:PS)(ok:OkS N s)(hd:s.depth*168≤140737488351232)(hs:s.size*24≤140737488351232):
  AProc prog 145 [.c (.d (.pt (psD s))),.c (.fn 1000000002)] [(1000000000,.cells [.d (.v (.slice none 0 0))] zdr),(1000000002,zoH)]
   (fun r own'=>r= .tup []∧own'= [(1000000000,.cells [.gs 77 s.size] zdr),(77,.arr s.size tSP (s.list.map fun q=>[z9 (q.map cE)])),(1000000002,zoH)]):=by
 have c1:=(zul N hN s ok).unpin 0 0 [] [] (by simp) (by simpa using hd) (by simpa using hs)
 unfold zmH zcF at c1
 simp only [List.nil_append,Nat.zero_add,List.map_nil] at c1
 obtain ⟨M,K,hX⟩:∃M K,psD s= [.sl tPE M,.sl tSN K]:=by cases s;exact ⟨_,_,zcI _ _⟩
 rw[hX] at c1 ⊢
 generalize (s.list.map fun q=>[z9 (q.map cE)])=Q at c1 ⊢
 generalize s.size=z at c1 ⊢
 have ct:ZP prog tFP= [none]:=by kernel_rfl
 refine AProc.drop (R:=fun r o=>r= .tup []∧∀p∈ [(1000000000,Ow.cells [.gs 77 z] zdr),(77,.arr z tSP Q),(1000000002,zoH)],zd o p.1=some p.2) ?_ fun r o h=>⟨_,⟨h.1,rfl⟩,h.2,by first|rfl|(simp [zg,Av.ids,Ow.ids,Cl.ids,Go.Smd.keys];done),by rw[h.1];rfl⟩
 refine zpV [] func145 (by kernel_rfl) rfl ntmps145 results145 (Nat.le_of_ble_eq_true (by kernel_rfl)) ?_;intro hok w0 S0
 refine ⟨⟨[(0,.c (.d (.pt [.sl tPE M,.sl tSN K]))),(1,.c (.fn 1000000002))],[(1000000000,.cells [.gs 77 0] zdr),(77,.arr 0 tSP []),(1000000002,zoH)]⟩,Weak.trans (Weak.adopt (z:=1000000000) (id:=77) (T:=zdr) (E:=tSP) rfl rfl (by decide)) ?_,?_⟩
 ·exact Weak.same (by simp -dsimp) (by simp -dsimp) (by first|rfl|(simp [zg,Av.ids,Ow.ids,Cl.ids,Go.Smd.keys];done))
 ·(repeat' (first|(with_reducible first|refine zj (fun _=>?_) (fun _=>?_)|refine zi (fun _=>?_) (fun _=>?_))|((with_reducible apply zcH (ρ:=[(1000000002,1000000000),(1000000003,77),(1000000004,1000000002),(1000000005,5)]) 7 (c1));(case hc=>simp -dsimp [ct]<;>first|exact ⟨rfl,rfl,rfl⟩|exact ⟨rfl,rfl⟩|done);(case hx=>simp -dsimp [ct]<;>with_reducible rfl);(case ho=>simp -dsimp [ct]);(case hh=>simp -dsimp [ct]);(case hb=>simp -dsimp [ct]))|(with_reducible first|refine zk zb (by kernel_rfl) ?_|exact za rfl)|(simp -dsimp [ct])));(all_goals try with_reducible refine za ?_)
  exact ⟨rfl,by simp [zd]⟩
theorem zpW (N:Nat)(hN:N≤3000000000000)(s:PS)(ok:OkS N s)(hd:s.depth*168≤140737488351232)(hs:s.size*24≤140737488351232):
  ACalls prog 88 [.c (.d (.pt (psD s)))] (fun r=>r= .c (.d (zU (s.list.map fun q=>q.map cE)))):=by
 have c1:=zlo N hN s ok hd hs
 obtain ⟨M,K,hX⟩:∃M K,psD s= [.sl tPE M,.sl tSN K]:=by cases s;exact ⟨_,_,zcI _ _⟩
 rw[hX] at c1 ⊢
 have e:zU (s.list.map fun q=>q.map cE)= .sl tSP (s.list.map fun q=>[z9 (q.map cE)]):=by simp only [zU,List.map_map];rfl
 rw[e]
 generalize (s.list.map fun q=>[z9 (q.map cE)])=Q at c1 ⊢
 generalize s.size=z at c1 ⊢
 have ct:ZP prog tFP= [none]:=by kernel_rfl
 refine zf [] func88 (by kernel_rfl) rfl ntmps88 results88 (Nat.le_of_ble_eq_true (by kernel_rfl)) ?_;intro hok w0 S0
 clear hok
 (repeat' (first|(with_reducible first|refine zj (fun _=>?_) (fun _=>?_)|refine zi (fun _=>?_) (fun _=>?_))|((with_reducible apply zcH (ρ:=[(1000000000,3),(1000000002,5)]) 7 (c1));(case hc=>simp -dsimp [ct]<;>first|exact ⟨rfl,rfl,rfl⟩|exact ⟨rfl,rfl⟩|done);(case hx=>simp -dsimp [ct]<;>with_reducible rfl);(case ho=>simp -dsimp [ct]);(case hh=>simp -dsimp [ct]);(case hb=>simp -dsimp [ct]))|(with_reducible first|refine zk zb (by kernel_rfl) ?_|exact za rfl)|(simp -dsimp [ct])));(all_goals try with_reducible refine za ?_)
abbrev GoodL (l:List (List EV)):Prop:=∀p∈l,PthS p∧∀e∈p,GoodE e
theorem zek (l:List (List EV))(hl:l.length≤1000000000000)(hg:GoodL l):ACalls prog 89 [.c (.d (zU l))] (fun r=>r= .c (.d (.pt (psD (mkP l))))):=ztS l (by omega) fun p hp=>⟨(hg p hp).1.1,(hg p hp).2⟩
theorem GoodL.ok {l:List (List EV)}(hg:GoodL l):OkS l.length (mkP l):=zfw _ l rfl fun p hp=>(hg p hp).2
theorem GoodL.full {l:List (List EV)}(hg:GoodL l):(mkP l).full:=zmA _ l rfl fun p hp=>(hg p hp).2
theorem GoodL.depth {l:List (List EV)}(hg:GoodL l):(mkP l).depth*168≤140737488351232:=by
 have:=zkn _ l rfl (fun p hp=>(hg p hp).2) 837723144947 (by omega) fun p hp=>by have:=(hg p hp).1.1;omega
 omega
theorem GoodL.size {l:List (List EV)}(hg:GoodL l):(mkP l).size≤l.length:=by
 obtain ⟨_,h,_⟩:=zf6 _ l rfl fun p hp=>(hg p hp).2
 have:=zsj l
 omega
theorem zgJ {N:Nat}(s:PS)(ok:OkS N s)(hN:N≤1000000000000)(hd:s.depth*168≤140737488351232)(hs:s.size≤1000000000000):ACalls prog 88 [.c (.d (.pt (psD s)))] (fun r=>r= .c (.d (zU (lsS s)))):=zpW N (by omega) s ok hd (by omega)
theorem PthS.take {p:List EV}(h:PthS p)(n:Nat):PthS (p.take n):=⟨by have:=h.1;rw[List.length_take];omega,fun e he=>h.2 e (List.mem_of_mem_take he)⟩
end Go.Smd
end
