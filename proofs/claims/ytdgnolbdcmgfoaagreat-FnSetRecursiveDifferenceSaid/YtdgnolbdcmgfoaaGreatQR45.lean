/- The law FnSetRecursiveDifference holds of every two lists of paths: the recursive difference of their sets lists the paths of the first that neither are in the second nor have a beginning in it. -/
import Derived.Test.YtdgnolbdcmgfoaaGreatQR41
import Derived.Test.YtdgnolbdcmgfoaaGreatQR44
import Derived.Test.YtdgnolbdcmgfoaaGreatQR35
set_option linter.unusedVariables false
set_option linter.unusedSimpArgs false
set_option maxRecDepth 100000
set_option maxHeartbeats 8000000
section
namespace Go.Smd
open Go.RowKit Go.Proofs Go.Proofs.Tryz
theorem zvr (N:Nat)(hN:N≤3000000000000)(ms:List EV)(ks:PK)(ok:OkS N (.mk ms ks))(h:∀s∈ks.ss,CIter s):CIter (.mk ms ks):=by
 intro v ver R p hv hp hd hb
 simp only [OkS] at ok
 simp only [PS.depth] at hd
 simp only [PS.size] at hb ⊢
 simp only [PS.list]
 have c1:=(zto v ver R p ms hv hp ok.1 (by omega) (by omega) (by omega)).pre1 (ys:=[.sl tSN (pkD ks)])
 have hRl:(R++zfe p ms).length=R.length+ms.length:=by simp
 have c2':=fun (v':Value) (hv':IsPin v' p.length)=>zvm ks v' (ver+ms.length) (R++zfe p ms) p hv' hp (by omega) (by omega) (by rw[hRl];omega) ok.2.2.2.1 h
 have c2:=c2' v hv
 have c3:=zjv 0 c2'
 have e1:R++zfe p ms++zcY p ks.list=R++zcY p (ms.map (fun e=>[e])++ks.list):=by rw[zqS,zcY,zcY,zcY,List.map_append,List.append_assoc]
 have e2:ver+ms.length+ks.size=ver+(ms.length+ks.size):=by omega
 rw[e1,e2] at c2 c3
 obtain ⟨R2,hR2⟩:∃R2,R2=R++zcY p (ms.map (fun e=>[e])++ks.list):=⟨_,rfl⟩
 obtain ⟨R1,hR1⟩:∃R1,R1=R++zfe p ms:=⟨_,rfl⟩
 obtain ⟨V1,hV1⟩:∃V1,V1=ver+ms.length:=⟨_,rfl⟩
 obtain ⟨V2,hV2⟩:∃V2,V2=ver+(ms.length+ks.size):=⟨_,rfl⟩
 rw[←hR1,←hV1] at c1 c2 c3
 rw[←hR2,←hV2] at c2 c3
 rw[←hR2,←hV2,zdt]
 simp only [List.cons_append,List.nil_append] at c1
 unfold zl0 at c1
 unfold zgJ at c2 ⊢
 obtain ⟨X,hX⟩:∃X,X=p.map eD:=⟨_,rfl⟩
 rw[←hX] at c1 c2 ⊢
 clear c2'
 refine AProc.drop (R:=fun r o=>r= .tup []∧∀p∈ [(1000000002,Ow.cells [.gs 1000000003 V2] zda),(1000000003,.arr V2 tSP R2),(1000000004,zfd),(1000000005,.clo (.pin v tPE X) [])],zd o p.1=some p.2) ?_ fun r o h=>⟨_,⟨h.1,rfl⟩,h.2,by first|rfl|(simp [zf,Av.ids,Ow.ids,Cl.ids,Go.Smd.keys];done),by rw[h.1];rfl⟩
 have lf:prog.lay tFP=some (1,false):=by kernel_rfl
 have ct:zaa prog tFP= [none]:=by kernel_rfl
 have ct2:zaa prog 255= [none]:=by kernel_rfl
 rcases id hv with ⟨rfl,h0⟩|⟨g,cap,rfl,hcap⟩
 ·have hp0:p= []:=List.eq_nil_of_length_eq_zero h0
  subst hp0
  have hX0:X= []:=hX
  subst hX0
  unfold znu at c3
  simp only [List.map_nil] at c3
  generalize ms.map eD=A at c1 ⊢
  refine zdg [] func195 (by kernel_rfl) rfl ntmps195 results195 (Nat.le_of_ble_eq_true (by kernel_rfl)) ?_;intro hok w0 S0 hpin
  (repeat' (first|(with_reducible first|refine zj (fun _=>?_) (fun _=>?_)|refine zi (fun _=>?_) (fun _=>?_))|((with_reducible apply zc0 (ρ:=[(1000000000,5),(1000000001,4),(1000000002,1000000002),(1000000003,1000000003),(1000000004,1000000004),(1000000005,1000000005),(1000000006,9)]) 7 (c1));(case hc=>simp -dsimp [ct2]<;>first|exact ⟨rfl,rfl,rfl⟩|exact ⟨rfl,rfl⟩|done);(case hx=>simp -dsimp [ct2]<;>with_reducible rfl);(case ho=>simp -dsimp [ct2]);(case hh=>simp -dsimp [ct2]);(case hb=>simp -dsimp [ct2]))|(with_reducible first|refine zk zb (by kernel_rfl) ?_|exact za rfl)|(simp -dsimp [ct2])));(all_goals try with_reducible refine za ?_)
  refine zxa (t':=()) (tl':=[(0,.c (.d (.pt [.sl tPE A,.sl tSN (pkD ks)]))),(4,.c (.own 4 0)),(5,.c (.own 5 0))]) (hl':=[(77,.arr 0 tPE []),(4,.cells [.gs 77 0] tLP),(5,.cells [.fn 1000000004] tFP),(1000000002,.cells [.gs 1000000003 V1] zda),(1000000003,.arr V1 tSP R1),(1000000004,zfd),(1000000005,.clo (.pin (.slice none 0 0) tPE []) [])]) (Weak.trans (Weak.adopt (z:=4) (id:=77) (T:=tLP) (E:=tPE) rfl rfl (by decide)) ?_) ?_
  ·exact Weak.same (by simp -dsimp) (by simp -dsimp) (by first|rfl|(simp [zf,Av.ids,Ow.ids,Cl.ids,Go.Smd.keys];done))
  ·refine zcT ?_
   refine ZI zb [[],[0],[0,1],[],[],[0,1,2,3,4]] [0,1,2,3,4,5] [5] [([],⟨[(11,?m11u1),(12,?m12u1),(13,?m13u1),(14,?m14u1),(15,?m15u1),(16,?m16u1)],?bu1,?o0u1⟩),([5],⟨[(11,?m11u1),(12,?m12u1),(13,?m13u1),(14,?m14u1),(15,?m15u1),(16,?m16u1)],?bu1,?o1u1⟩)] ?hoku1 rfl rfl ?hbu1 ?hou1 ?hstu1 ?hku1
   case' hbu1=>rfl
   case' hou1=>rfl
   case' hstu1=>refine ⟨⟨?v0u1,?s0u1⟩,⟨⟨?v1u1,?s1u1⟩,True.intro⟩⟩
   case v0u1=>
    iterate 5 refine ⟨.inr ⟨_,rfl,zm (z9 rfl rfl (by simp -dsimp [zg,lf,ct]<;>with_reducible rfl))⟩,?_⟩
    refine ⟨.inl (by kernel_rfl),?_⟩
    exact True.intro
   case' s0u1=>
    refine ⟨.inr ⟨_,_,rfl,rfl,zN (zsn (d:=16) (ρ:=[(1000000002,1000000002),(1000000003,1000000003),(1000000004,1000000004),(1000000005,77)]) (t:=5) (hR:=c3) (hp:=rfl) (hd:=rfl) (hdk:=rfl) (hc:=by simp -dsimp [zg,lf,ct]<;>(first|done|rfl|exact ⟨rfl,rfl⟩|exact ⟨rfl,rfl,rfl⟩)) (hx:=by simp -dsimp [zg,lf,ct]<;>with_reducible rfl) (ho:=by simp -dsimp [zg,lf,ct]) (hh:=by simp -dsimp [zg,lf,ct]) (hb:=by simp -dsimp [zg,lf,ct]) (h1:=by simp -dsimp [zg,lf,ct]<;>with_reducible rfl) (hv:=by simp -dsimp [zg,lf,ct]<;>with_reducible rfl) (hfix:= ?hf5k0u1)) (by simp -dsimp [zg,zW,zay,lf,ct]<;>with_reducible rfl)⟩,?_⟩
    rotate_left
    exact True.intro
   case v1u1=>
    iterate 6 refine ⟨.inl (by kernel_rfl),?_⟩
    exact True.intro
   case s1u1=>
    refine ⟨.inl (by kernel_rfl),?_⟩
    exact True.intro
   case s0u1=>simp -dsimp [zg,lf,ct]
   case hoku1=>kernel_rfl
   refine ⟨rfl,?_⟩
   (repeat' (first|(with_reducible first|refine zj (fun _=>?_) (fun _=>?_)|refine zi (fun _=>?_) (fun _=>?_)|refine zk zb (by kernel_rfl) ?_|exact za rfl)|(simp -dsimp)));(all_goals try with_reducible refine za ?_)
   exact ⟨rfl,by simp [zd]⟩
 ·refine zdg [] func195 (by kernel_rfl) rfl ntmps195 results195 (Nat.le_of_ble_eq_true (by kernel_rfl)) ?_;intro hok w0 S0 hpin
  (repeat' (first|(with_reducible first|refine zj (fun _=>?_) (fun _=>?_)|refine zi (fun _=>?_) (fun _=>?_))|((with_reducible apply zc0 (ρ:=[(1000000000,5),(1000000001,4),(1000000002,1000000002),(1000000003,1000000003),(1000000004,1000000004),(1000000005,1000000005),(1000000006,9)]) 7 (c1));(case hc=>simp -dsimp [ct2]<;>first|exact ⟨rfl,rfl,rfl⟩|exact ⟨rfl,rfl⟩|done);(case hx=>simp -dsimp [ct2]<;>with_reducible rfl);(case ho=>simp -dsimp [ct2]);(case hh=>simp -dsimp [ct2]);(case hb=>simp -dsimp [ct2]))|(with_reducible first|refine zk zb (by kernel_rfl) ?_|exact za rfl)|(simp -dsimp [ct2])));(all_goals try with_reducible refine za ?_)
  refine zcT ?_
  refine ZI zb [[],[0],[0,1],[],[],[0,1,2,3,4]] [0,1,2,3,4,5] [5] [([],⟨[(11,?m11u2),(12,?m12u2),(13,?m13u2),(14,?m14u2),(15,?m15u2),(16,?m16u2)],?bu2,?o0u2⟩),([5],⟨[(11,?m11u2),(12,?m12u2),(13,?m13u2),(14,?m14u2),(15,?m15u2),(16,?m16u2)],?bu2,?o1u2⟩)] ?hoku2 rfl rfl ?hbu2 ?hou2 ?hstu2 ?hku2
  case' hbu2=>rfl
  case' hou2=>rfl
  case' hstu2=>refine ⟨⟨?v0u2,?s0u2⟩,⟨⟨?v1u2,?s1u2⟩,True.intro⟩⟩
  case v0u2=>
   iterate 5 refine ⟨.inr ⟨_,rfl,zm (z9 rfl rfl (by simp -dsimp [zg,lf,ct]<;>with_reducible rfl))⟩,?_⟩
   refine ⟨.inl (by kernel_rfl),?_⟩
   exact True.intro
  case' s0u2=>
   refine ⟨.inr ⟨_,_,rfl,rfl,zN (zsn (d:=16) (ρ:=[(1000000002,1000000002),(1000000003,1000000003),(1000000004,1000000004),(1000000005,1000000005)]) (t:=5) (hR:=c2) (hp:=rfl) (hd:=rfl) (hdk:=rfl) (hc:=by simp -dsimp [zg,lf,ct]<;>(first|done|rfl|exact ⟨rfl,rfl⟩|exact ⟨rfl,rfl,rfl⟩)) (hx:=by simp -dsimp [zg,lf,ct]<;>with_reducible rfl) (ho:=by simp -dsimp [zg,lf,ct]) (hh:=by simp -dsimp [zg,lf,ct]) (hb:=by simp -dsimp [zg,lf,ct]) (h1:=by simp -dsimp [zg,lf,ct]<;>with_reducible rfl) (hv:=by simp -dsimp [zg,lf,ct]<;>with_reducible rfl) (hfix:= ?hf5k0u2)) (by simp -dsimp [zg,zW,zay,lf,ct]<;>with_reducible rfl)⟩,?_⟩
   rotate_left
   exact True.intro
  case v1u2=>
   iterate 6 refine ⟨.inl (by kernel_rfl),?_⟩
   exact True.intro
  case s1u2=>
   refine ⟨.inl (by kernel_rfl),?_⟩
   exact True.intro
  case s0u2=>simp -dsimp [zg,lf,ct]
  case hoku2=>kernel_rfl
  refine ⟨rfl,?_⟩
  (repeat' (first|(with_reducible first|refine zj (fun _=>?_) (fun _=>?_)|refine zi (fun _=>?_) (fun _=>?_)|refine zk zb (by kernel_rfl) ?_|exact za rfl)|(simp -dsimp)));(all_goals try with_reducible refine za ?_)
  exact ⟨rfl,by simp [zd]⟩
theorem zvs (N:Nat)(hN:N≤3000000000000):∀s:PS,OkS N s→CIter s:=
 zjf fun ms ks ih ok=>zvr N hN ms ks ok fun s hs=>ih s hs (by simp only [OkS] at ok;exact ok.2.2.2.2.2.2.all s hs)
theorem zqX {P:Program}{f:FuncId}{fn:Func}{c:Code}{args:List Av}{own:List (Nat×Ow)}{R:Av→List (Nat×Ow)→Prop}{N:Nat}{rs:List ResultVar}(sc:Sch)(hf:P.funcs[f]? =some fn)(hn:(fn.name== "runtime.NumGoroutine")=false)(hb:fn.body=some c)(hN:fn.ntmps=N)(hrs:fn.results=rs.toArray)(hl:args.length≤N)
  (h:(∀x∈args,x.isD=true→okA P x)→∀w0 S0,∃σ',Weak P N w0 S0 ⟨zad 0 args,own⟩ σ'∧ex P N w0 S0 (zkk P rs R) sc [.code c] () 100000 σ'):AProc P f args own R:=
 zgg hf hn hb hN hrs hl fun hok w0 S0=>fun β a w s=>by
  obtain ⟨σ',hw,hx⟩:=h hok w0 S0
  exact (AWp.weak hw ((zmC hx).mono fun _ _=>ziH)) β a w s
abbrev zpF:Ow:=.clo (.fn 146) [.own 1000000000 0]
theorem zl7 (N:Nat)(hN:N≤3000000000000)(s:PS)(ok:OkS N s)(hd:s.depth*168≤140737488351232)(hs:s.size*24≤140737488351232):
  AProc prog 145 [.c (.d (.pt (psD s))),.c (.fn 1000000002)] [(1000000000,.cells [.d (.v (.slice none 0 0))] zda),(1000000002,zpF)]
   (fun r own'=>r= .tup []∧own'= [(1000000000,.cells [.gs 77 s.size] zda),(77,.arr s.size tSP (s.list.map fun q=>[zG (q.map cE)])),(1000000002,zpF)]):=by
 have c1:=(zvs N hN s ok).unpin 0 0 [] [] (by simp) (by simpa using hd) (by simpa using hs)
 unfold znu zcY at c1
 simp only [List.nil_append,Nat.zero_add,List.map_nil] at c1
 obtain ⟨M,K,hX⟩:∃M K,psD s= [.sl tPE M,.sl tSN K]:=by cases s;exact ⟨_,_,zdt _ _⟩
 rw[hX] at c1 ⊢
 generalize (s.list.map fun q=>[zG (q.map cE)])=Q at c1 ⊢
 generalize s.size=z at c1 ⊢
 have ct:zaa prog tFP= [none]:=by kernel_rfl
 refine AProc.drop (R:=fun r o=>r= .tup []∧∀p∈ [(1000000000,Ow.cells [.gs 77 z] zda),(77,.arr z tSP Q),(1000000002,zpF)],zd o p.1=some p.2) ?_ fun r o h=>⟨_,⟨h.1,rfl⟩,h.2,by first|rfl|(simp [zf,Av.ids,Ow.ids,Cl.ids,Go.Smd.keys];done),by rw[h.1];rfl⟩
 refine zqX [] func145 (by kernel_rfl) rfl ntmps145 results145 (Nat.le_of_ble_eq_true (by kernel_rfl)) ?_;intro hok w0 S0
 refine ⟨⟨[(0,.c (.d (.pt [.sl tPE M,.sl tSN K]))),(1,.c (.fn 1000000002))],[(1000000000,.cells [.gs 77 0] zda),(77,.arr 0 tSP []),(1000000002,zpF)]⟩,Weak.trans (Weak.adopt (z:=1000000000) (id:=77) (T:=zda) (E:=tSP) rfl rfl (by decide)) ?_,?_⟩
 ·exact Weak.same (by simp -dsimp) (by simp -dsimp) (by first|rfl|(simp [zf,Av.ids,Ow.ids,Cl.ids,Go.Smd.keys];done))
 ·(repeat' (first|(with_reducible first|refine zj (fun _=>?_) (fun _=>?_)|refine zi (fun _=>?_) (fun _=>?_))|((with_reducible apply zc0 (ρ:=[(1000000002,1000000000),(1000000003,77),(1000000004,1000000002),(1000000005,5)]) 7 (c1));(case hc=>simp -dsimp [ct]<;>first|exact ⟨rfl,rfl,rfl⟩|exact ⟨rfl,rfl⟩|done);(case hx=>simp -dsimp [ct]<;>with_reducible rfl);(case ho=>simp -dsimp [ct]);(case hh=>simp -dsimp [ct]);(case hb=>simp -dsimp [ct]))|(with_reducible first|refine zk zb (by kernel_rfl) ?_|exact za rfl)|(simp -dsimp [ct])));(all_goals try with_reducible refine za ?_)
  exact ⟨rfl,by simp [zd]⟩
theorem zqY (N:Nat)(hN:N≤3000000000000)(s:PS)(ok:OkS N s)(hd:s.depth*168≤140737488351232)(hs:s.size*24≤140737488351232):
  ACalls prog 88 [.c (.d (.pt (psD s)))] (fun r=>r= .c (.d (zM (s.list.map fun q=>q.map cE)))):=by
 have c1:=zl7 N hN s ok hd hs
 obtain ⟨M,K,hX⟩:∃M K,psD s= [.sl tPE M,.sl tSN K]:=by cases s;exact ⟨_,_,zdt _ _⟩
 rw[hX] at c1 ⊢
 have e:zM (s.list.map fun q=>q.map cE)= .sl tSP (s.list.map fun q=>[zG (q.map cE)]):=by simp only [zM,List.map_map];rfl
 rw[e]
 generalize (s.list.map fun q=>[zG (q.map cE)])=Q at c1 ⊢
 generalize s.size=z at c1 ⊢
 have ct:zaa prog tFP= [none]:=by kernel_rfl
 refine ze [] func88 (by kernel_rfl) rfl ntmps88 results88 (Nat.le_of_ble_eq_true (by kernel_rfl)) ?_;intro hok w0 S0
 clear hok
 (repeat' (first|(with_reducible first|refine zj (fun _=>?_) (fun _=>?_)|refine zi (fun _=>?_) (fun _=>?_))|((with_reducible apply zc0 (ρ:=[(1000000000,3),(1000000002,5)]) 7 (c1));(case hc=>simp -dsimp [ct]<;>first|exact ⟨rfl,rfl,rfl⟩|exact ⟨rfl,rfl⟩|done);(case hx=>simp -dsimp [ct]<;>with_reducible rfl);(case ho=>simp -dsimp [ct]);(case hh=>simp -dsimp [ct]);(case hb=>simp -dsimp [ct]))|(with_reducible first|refine zk zb (by kernel_rfl) ?_|exact za rfl)|(simp -dsimp [ct])));(all_goals try with_reducible refine za ?_)
abbrev GoodL (l:List (List EV)):Prop:=∀p∈l,PthS p∧∀e∈p,GoodE e
theorem zpG (l:List (List EV))(hl:l.length≤1000000000000)(hg:GoodL l):ACalls prog 89 [.c (.d (zM l))] (fun r=>r= .c (.d (.pt (psD (mkP l))))):=zuW l (by omega) fun p hp=>⟨(hg p hp).1.1,(hg p hp).2⟩
theorem GoodL.ok {l:List (List EV)}(hg:GoodL l):OkS l.length (mkP l):=zhf _ l rfl fun p hp=>(hg p hp).2
theorem GoodL.full {l:List (List EV)}(hg:GoodL l):(mkP l).full:=znn _ l rfl fun p hp=>(hg p hp).2
theorem GoodL.depth {l:List (List EV)}(hg:GoodL l):(mkP l).depth*168≤140737488351232:=by
 have:=zk3 _ l rfl (fun p hp=>(hg p hp).2) 837723144947 (by omega) fun p hp=>by have:=(hg p hp).1.1;omega
 omega
theorem GoodL.size {l:List (List EV)}(hg:GoodL l):(mkP l).size≤l.length:=by
 obtain ⟨_,h,_⟩:=zgE _ l rfl fun p hp=>(hg p hp).2
 have:=zjq l
 omega
theorem zqZ {N:Nat}(s:PS)(ok:OkS N s)(hN:N≤1000000000000)(hd:s.depth*168≤140737488351232)(hs:s.size≤1000000000000):ACalls prog 88 [.c (.d (.pt (psD s)))] (fun r=>r= .c (.d (zM (lsS s)))):=zqY N (by omega) s ok hd (by omega)
theorem znB (a b:List (List EV))(la:a.length≤1000000000000)(lb:b.length≤1000000000000)(ga:GoodL a)(gb:GoodL b):ACalls prog 33 [.c (.d (zM a)),.c (.d (zM b))] (fun r=>r= .c (.d (zM (lsS (opS oRd (mkP a) (mkP b)))))):=by
 have c1:=zpG a la ga
 have c2:=zpG b lb gb
 have c3:=zxf a.length b.length la lb (mkP a) ga.ok (mkP b) gb.ok
 unfold CRd at c3
 have ho:=znr oRd (mkP a) ga.ok (mkP b)
 have hz:=ga.size
 have hd:=ga.depth
 have c4:=zqZ (opS oRd (mkP a) (mkP b)) ho.1 la (by have:=ho.2.1;omega) (by have:=ho.2.2.1;omega)
 generalize lsS (opS oRd (mkP a) (mkP b))=Q at c4 ⊢
 generalize psD (opS oRd (mkP a) (mkP b))=Z at c3 c4
 generalize psD (mkP a)=X at c1 c3
 generalize psD (mkP b)=Y at c2 c3
 refine ze [] func33 (by kernel_rfl) rfl ntmps33 results33 (Nat.le_of_ble_eq_true (by kernel_rfl)) ?_;intro hok w0 S0
 clear hok
 (repeat' (first|(with_reducible first|refine zj (fun _=>?_) (fun _=>?_)|refine zi (fun _=>?_) (fun _=>?_)|refine zl (c1) (by first|rfl|(simp -dsimp;done)) ?_|refine zl (c2) (by first|rfl|(simp -dsimp;done)) ?_|refine zl (c3) (by first|rfl|(simp -dsimp;done)) ?_|refine zl (c4) (by first|rfl|(simp -dsimp;done)) ?_|refine zk zb (by kernel_rfl) ?_|exact za rfl)|(simp -dsimp)));(all_goals try with_reducible refine za ?_)
theorem PthS.take {p:List EV}(h:PthS p)(n:Nat):PthS (p.take n):=⟨by have:=h.1;rw[List.length_take];omega,fun e he=>h.2 e (List.mem_of_mem_take he)⟩
theorem zpH {p:List EV}{n:Nat}(h1:1≤n)(h2:n≤p.length):p.take n≠ []:=fun h=>by
 have:=congrArg List.length h
 rw[List.length_take,List.length_nil] at this;omega
theorem zvt {a b:List (List EV)}(ga:GoodL a)(gb:GoodL b):znv (lsS (opS oRd (mkP a) (mkP b))) (((mkW a).map cP).filter fun p=> !zf9 (mkW b) p):=fun q hq hg=>by
 have ho:zjh q:=fun e he=>(hg e he).o
 have hga:∀p∈a,∀e∈p,GoodE e:=fun p hp=>(ga p hp).2
 have hgb:∀p∈b,∀e∈p,GoodE e:=fun p hp=>(gb p hp).2
 have cov:∀p:List EV,(∀e∈p,GoodE e)→zf9 (mkW b) p=zcn (mkP b) p:=fun p hp=>by
  have hpo:zjh p:=fun e he=>(hp e he).o
  rw[Bool.eq_iff_iff,zjy,zhh p hpo gb.ok]
  constructor
  ·rintro ⟨n,h1,h2,h3⟩
   exact ⟨n,h1,h2,(zl1 hgb (zpH h1 h2) fun e he=>hpo e (List.mem_of_mem_take he)).1 (zcm.1 h3)⟩
  ·rintro ⟨n,h1,h2,h3⟩
   exact ⟨n,h1,h2,zcm.2 ((zl1 hgb (zpH h1 h2) fun e he=>hpo e (List.mem_of_mem_take he)).2 h3)⟩
 have ccong:∀p:List EV,(∀e∈p,GoodE e)→Zf p q=0→zcn (mkP b) p=zcn (mkP b) q:=fun p hp h0=>by
  have e1:=zk1 hp hg ((zfw hp hg).2 h0)
  exact zju e1 (fun e he=>(hp e he).o) ho gb.ok
 rw[←zvn (znr oRd (mkP a) ga.ok (mkP b)).1 hq ho,ztv oRd q hq ho ga.ok gb.ok,ztw q hq,Bool.and_eq_true,←zl1 hga hq ho]
 constructor
 ·rintro ⟨⟨w,hw,h0⟩,h1⟩
  have hwg:=(zl2 hga).good w hw
  refine ⟨cP w,List.mem_filter.2 ⟨List.mem_map.2 ⟨w,hw,rfl⟩,?_⟩,by rw[zcL];exact h0⟩
  have hcg:∀e∈cP w,GoodE e:=fun e he=>by
   rw[zpC] at he
   obtain ⟨y,hy,rfl⟩:=List.mem_map.1 he
   exact zfv (hwg y hy)
  rw[cov _ hcg,ccong _ hcg (by rw[zcL];exact h0)];exact h1
 ·rintro ⟨w,hw,h0⟩
  obtain ⟨hw,h1⟩:=List.mem_filter.1 hw
  obtain ⟨x,hx,rfl⟩:=List.mem_map.1 hw
  have hxg:=(zl2 hga).good x hx
  have hcg:∀e∈cP x,GoodE e:=fun e he=>by
   rw[zpC] at he
   obtain ⟨y,hy,rfl⟩:=List.mem_map.1 he
   exact zfv (hxg y hy)
  rw[cov _ hcg,ccong _ hcg h0] at h1
  exact ⟨⟨x,hx,by rw[zcL] at h0;exact h0⟩,h1⟩
theorem zq0 (a b:List (List EV)):ACalls prog 5 [.c (.d (zM a)),.c (.d (zM b))] (fun r=>r=aV (.bool true)):=by
 refine ze [] func5 (by kernel_rfl) rfl ntmps5 results5 (Nat.le_of_ble_eq_true (by kernel_rfl)) ?_;intro hok w0 S0
 have ka:=znk (hok (.c (.d (zM a))) (by simp))
 have kb:=znk (hok (.c (.d (zM b))) (by simp))
 clear hok
 have b1:a.length≤9223372036854775807:=by omega
 have b2:b.length≤9223372036854775807:=by omega
 by_cases la:a.length≤2147483647
 ·by_cases lb:b.length≤2147483647
  ·have n1:¬(2147483647<(a.length:Int)):=by omega
   have n2:¬(2147483647<(b.length:Int)):=by omega
   have c0:=zxc a b (by omega)
   have t1:=zjk (a++b) (by rw[List.length_append];omega) fun p hp=>by
    rcases List.mem_append.1 hp with hp|hp
    ·exact ⟨(ka.2 p hp).1.1,(ka.2 p hp).1.2⟩
    ·exact ⟨(kb.2 p hp).1.1,(kb.2 p hp).1.2⟩
   (repeat' (first|(with_reducible first|refine zj (fun _=>?_) (fun _=>?_)|refine zi (fun _=>?_) (fun _=>?_)|refine zl (c0) (by first|rfl|(simp -dsimp [b1,b2,n1,n2];done)) ?_)|((with_reducible refine zlA (t1) (by first|rfl|(simp -dsimp [b1,b2,n1,n2];done)) ?_);rintro _ ⟨x,rfl,hx⟩ _)|((with_reducible refine zlB (t1) rfl ?_ ?_ ?_;iterate 2 exact by first|rfl|(simp -dsimp [b1,b2,n1,n2];done));rintro _ ⟨x,rfl,hx⟩ _)|(with_reducible first|refine zk zb (by kernel_rfl) ?_|exact za rfl)|(simp -dsimp [b1,b2,n1,n2])));(all_goals try with_reducible refine za ?_)
   have good:=hx (by simpa using ‹(!x)=false›)
   have ga:GoodL a:=fun p hp=>⟨(ka.2 p hp).1,fun e he=>⟨(ka.2 p hp).1.2 e he,(ka.2 p hp).2 e he,good p (List.mem_append_left _ hp) e he⟩⟩
   have gb:GoodL b:=fun p hp=>⟨(kb.2 p hp).1,fun e he=>⟨(kb.2 p hp).1.2 e he,(kb.2 p hp).2 e he,good p (List.mem_append_right _ hp) e he⟩⟩
   have c1:=znB a b (by omega) (by omega) ga gb
   have c2:=zhY a (by omega) ga
   have c3:=zhY b (by omega) gb
   have hle:=zjq a
   have hle2:=zjq b
   have okb:=zl2 fun p hp=>(gb p hp).2
   have oka:=zl2 fun p hp=>(ga p hp).2
   have pa:=zjx ga
   have pb:=zjx gb
   have ga2:GoodL ((mkW a).map cP):=fun p hp=>by
    obtain ⟨w,hw,rfl⟩:=List.mem_map.1 hp
    exact zty (pa w hw).1 (pa w hw).2
   have c4:=zl6 okb (by omega) (fun w hw=>(pb w hw).1) ((mkW a).map cP) (by rw[List.length_map];omega) ga2
   have ho:=znr oRd (mkP a) ga.ok (mkP b)
   have hz:=ga.size
   have hd:=ga.depth
   have c5:=zvq (lsS (opS oRd (mkP a) (mkP b))) (((mkW a).map cP).filter fun p=> !zf9 (mkW b) p) (by rw[List.length_map,PS.list_length];have:=ho.2.2.1;omega)
    (by have:=List.length_filter_le (fun p=> !zf9 (mkW b) p) ((mkW a).map cP);rw[List.length_map] at this;omega) (zxb ho.1)
    ⟨fun w hw=>oka.map_cP.good w (List.mem_filter.1 hw).1,fun w hw=>oka.map_cP.ne w (List.mem_filter.1 hw).1,oka.map_cP.sort.sublist List.filter_sublist⟩
    (fun p hp=>(ztx ho.1 (by have:=ho.2.1;omega) p hp).1) (fun p hp=>(ga2 p (List.mem_filter.1 hp).1).1) (zvt ga gb)
   generalize (((mkW a).map cP).filter fun p=> !zf9 (mkW b) p)=Q1 at c4 c5
   generalize (mkW a).map cP=Q2 at c2 c4
   generalize (mkW b).map cP=Q3 at c3 c4
   generalize lsS (opS oRd (mkP a) (mkP b))=Q4 at c1 c5
   (repeat' (first|(with_reducible first|refine zj (fun _=>?_) (fun _=>?_)|refine zi (fun _=>?_) (fun _=>?_)|refine zl (c1) (by first|rfl|(simp -dsimp;done)) ?_|refine zl (c2) (by first|rfl|(simp -dsimp;done)) ?_|refine zl (c3) (by first|rfl|(simp -dsimp;done)) ?_|refine zl (c4) (by first|rfl|(simp -dsimp;done)) ?_|refine zl (c5) (by first|rfl|(simp -dsimp;done)) ?_|refine zk zb (by kernel_rfl) ?_|exact za rfl)|(simp -dsimp)));(all_goals try with_reducible refine za ?_)
  ·have n1:¬(2147483647<(a.length:Int)):=by omega
   have n2:(2147483647<(b.length:Int)):=by omega
   (repeat' (first|(with_reducible first|refine zj (fun _=>?_) (fun _=>?_)|refine zi (fun _=>?_) (fun _=>?_)|refine zk zb (by kernel_rfl) ?_|exact za rfl)|(simp -dsimp [b1,b2,n1,n2])));(all_goals try with_reducible refine za ?_)
 ·have n1:(2147483647<(a.length:Int)):=by omega
  (repeat' (first|(with_reducible first|refine zj (fun _=>?_) (fun _=>?_)|refine zi (fun _=>?_) (fun _=>?_)|refine zk zb (by kernel_rfl) ?_|exact za rfl)|(simp -dsimp [b1,b2,n1])));(all_goals try with_reducible refine za ?_)
end Go.Smd
end
section
namespace Go.Proofs.YtdgnolbdcmgfoaaGreat
open Go.Smd Go.RowKit Go.Proofs Go.Proofs.Tryz Go.ChangeShapes Go.WideShapes Go.ChangeAt
theorem zl8 (os:Os)(started:os.Started)(H:Type)(enc:TypeId×Value→H):
  ReturnsInHanded {} Tryz.checked os 5 .any (Rows.fnSetRecursiveDifferenceSpec.pre6 enc prog Tryz.f5 Rows.fnSetRecursiveDifferenceRow.domain false) (Rows.fnSetRecursiveDifferenceSpec.post enc prog Tryz.f5 false true false false):=by
 refine ztj func5 rfl rfl (by decide+kernel) (by kernel_rfl) started (fun ds h=>?_)
  (ChangeSpec.witness6 (enc:=enc) (C:=Tryz.checked) false ⟨#[], #[.slice none 0 0,.slice none 0 0],[]⟩ 8 (by kernel_rfl) (by kernel_rfl) (by kernel_rfl) (by kernel_rfl)) ?_
 ·match ds,h with
  | [d1,d2],_=>rfl
 ·intro W args ds p hA hw hval
  obtain ⟨_,hval⟩:=hval
  rw[params5] at hA hw hval
  obtain ⟨v1,vs1,d1,ds1,p1,q1,e1,rfl,rfl,t1,hA⟩:=trodAll_cons hA
  obtain ⟨v2,vs2,d2,ds2,p2,q2,rfl,rfl,rfl,t2,hA⟩:=trodAll_cons hA
  obtain ⟨rfl,rfl,rfl⟩:=trodAll_nil hA
  have ea:args= #[v1,v2]:=by rw[←Array.toArray_toList (xs:=args),e1]
  subst ea
  simp only [DataW.weightsEach] at hw
  have hw:Light (DataW.weights prog 32 d1++(DataW.weights prog 32 d2++ [])):=hw
  have w1:=hw.append.1
  have w2:=hw.append.2.append.1
  obtain ⟨_,_,_,h1⟩:=okWide_slice underlying32 (hval 0 32 v1 rfl rfl)
  obtain ⟨_,_,_,h2⟩:=okWide_slice underlying32 (hval 1 32 v2 rfl rfl)
  obtain ⟨a1,_,g1,ra1⟩:=znh t1 w1 (fun n=>zb9 (E:=22) (e:=fun p:List EV=>[zG p]) (by kernel_rfl) (fun s=>by kernel_rfl) fun m _=>zb9 (E:=29) (e:=evD) (by kernel_rfl) (fun s=>by simp) fun m _=>zjp) (fun l=>⟨_,rfl⟩) (fun cs h=>by rw[h1] at h;cases h)
  obtain ⟨a2,_,g2,ra2⟩:=znh t2 w2 (fun n=>zb9 (E:=22) (e:=fun p:List EV=>[zG p]) (by kernel_rfl) (fun s=>by kernel_rfl) fun m _=>zb9 (E:=29) (e:=evD) (by kernel_rfl) (fun s=>by simp) fun m _=>zjp) (fun l=>⟨_,rfl⟩) (fun cs h=>by rw[h2] at h;cases h)
  cases g1
  cases g2
  exact zsA (zq0 a1 a2) (.cons ra1 (.cons ra2 .nil))
theorem zoK:laidOutB  Tryz.pinned.checked.prog=true:=by kernel_rfl
theorem zoL:mapsRowed  Tryz.pinned.checked.prog=true:=by kernel_rfl
theorem zoM:(Rows.fnSetRecursiveDifferenceRow.inPlace==Tryz.pinned.checked.prog.inPlace  5)=true:=by kernel_rfl
theorem zq1:(Rows.fnSetRecursiveDifferenceRow.unfollowed==Tryz.pinned.checked.prog.unfollowed  5)=true:=by kernel_rfl
theorem zq2:(Rows.fnSetRecursiveDifferenceRow.recurses==Tryz.pinned.checked.prog.recurses  5)=true:=by kernel_rfl
theorem znC:(Rows.fnSetRecursiveDifferenceRow.named==Tryz.pinned.checked.prog.varsNamed  5)=true:=by kernel_rfl
theorem ztD:(Rows.fnSetRecursiveDifferenceRow.plainKeys==Tryz.pinned.checked.prog.plainKeys)=true:=by  kernel_rfl
theorem znD:Tryz.pinned.checked.prog.stopsHeard=true:=by  kernel_rfl
theorem zq3:Tryz.pinned.checked.prog.mayEnter=true:=by  kernel_rfl
theorem zoN:(Rows.fnSetRecursiveDifferenceRow.lifted==Tryz.pinned.checked.prog.liftsFinal)=true:=by  kernel_rfl
theorem zoO:(Tryz.pinned.checked.prog.make==some  Rows.fnSetRecursiveDifferenceRow.make)=true:=by kernel_rfl
theorem zl9:joinedFacts  Tryz.pinned.checked.prog 5 Tryz.f5 Rows.fnSetRecursiveDifferenceSpec Rows.fnSetRecursiveDifferenceRow=true:=by
 unfold joinedFacts
 rw[zoK,zoL,zoM,zq1,zq2,znC,ztD,znD,zq3,zoN,zoO]
 kernel_rfl
theorem setRd_holds:Rows.FnSetRecursiveDifferenceSaid:=
 OpenClaim.holds_of_wide 5 Tryz.f5 rfl rfl rfl rfl rfl rfl rfl ⟨rfl,rfl,rfl,rfl,rfl⟩ rfl rfl rfl rfl rfl (by kernel_rfl) func5 zl9
  (of_decide_eq_true (by kernel_rfl)) (by unfold Func.isWrapper;first|(rw[if_pos (by decide+kernel)];kernel_rfl)|(rw[if_neg (by decide+kernel)];exact ⟨rfl,rfl⟩))
  (fun os started H enc _=>zl8 os started H enc)
end Go.Proofs.YtdgnolbdcmgfoaaGreat
end
#print axioms Go.Proofs.YtdgnolbdcmgfoaaGreat.setRd_holds
