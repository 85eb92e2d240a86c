/- Part 30. -/
import Derived.Test.YtdgnolbdcmgfoaaGreatQD29
set_option linter.unusedVariables false
set_option linter.unusedSimpArgs false
set_option maxRecDepth 100000
set_option maxHeartbeats 8000000
section
namespace Go.Smd
open Go.RowKit Go.Proofs Go.Proofs.Tryz
theorem ze2 {v:Value}{F:List Nat}{t:ST}{xs:List Cl}{b:Nat}:occ v (.clo (.set F t) xs) b↔bk v=some b∨b∈F:=by simp [occ,Ow.fp,Hd.fp]
theorem zmr (s:PS)(F:List Nat)(N:Nat)(p:List EV)(ok:OkS N s)(hN:(N+1)*40≤140737488351232)(hp:∀e∈p,GoodE e):
  AProc prog 149 [.c (.fn 1000000000),.c (.d (zal (p.map zX)))] [(1000000000,.clo (.set F (stP s)) [])]
   (fun r own'=>∃F',True∧r= .tup []∧own'= [(1000000000,.clo (.set F' (stP (s.ins p))) [])]):=by
 refine ⟨⟨_,func149,by kernel_rfl,rfl⟩,fun w E β vs sm ha=>?_⟩
 obtain ⟨v,_,rfl,a1,ha⟩:=ha.inv
 obtain ⟨pv,_,rfl,a2,ha⟩:=ha.inv
 cases ha.inv0
 obtain ⟨σ,hσ⟩:∃σ:St,σ=⟨[],[(1000000000,.clo (.set F (stP s)) [])]⟩:=⟨_,rfl⟩
 have q0:σ.h 1000000000=some (.clo (.set F (stP s)) []):=by rw[hσ];rfl
 have qn:∀i o,σ.h i=some o→i=1000000000∧o= .clo (.set F (stP s)) []:=fun i o h=>by
  rw[hσ] at h
  simp only [St.h,zd] at h
  split at h
  ·next e=>cases h;exact ⟨e.symm,rfl⟩
  ·cases h
 have eo:zd [((1000000000:Nat),Ow.clo (.set F (stP s)) [])]=σ.h:=by rw[hσ];rfl
 rw[eo] at a1 a2
 rw[←hσ] at sm
 obtain ⟨_,_,h1,h2,_⟩:=a1
 obtain ⟨us,⟨rfl,b,hv,hS⟩,hus⟩:=sm.own _ _ q0
 rw[h2,hv]
 have hdis:∀x,Sd w E β σ.h w x→x<w.heap.size∧x∉F:=fun x hx=>⟨hx.2.1,fun hF=>hx.2.2 _ _ q0 (ze2.2 (.inr hF))⟩
 refine (zjd p hS hdis ok hN hp pv a2).mono ?_
 rintro en w' ⟨rfl,F',S',k1,k2,k3,k4,k5,k6⟩
 have hbF:b∈F':=HasS.mem k1
 have occF:∀x,x∈F→occ (β 1000000000) (.clo (.set F (stP s)) []) x:=fun x hx=>ze2.2 (.inr hx)
 have hnk:∀x,x∈F→¬E.K x:=fun x hx=>(sm.new _ _ x q0 (occF x hx)).1
 obtain ⟨s1,_⟩:=sm.writeX (id:=1000000000) (o':=.clo (.set F' (stP (s.ins p))) []) (v':=β 1000000000) (fun h=>by rw[q0] at h;cases h) (fun f xs h=>⟨⟨_,_,rfl⟩,rfl⟩) (k6.mono fun x hx=>⟨_,q0,occF x hx⟩)
  (fun x hx=>by
   rcases ze2.1 hx with h|h
   ·exact .inl ⟨_,q0,ze2.2 (.inl h)⟩
   ·rcases k5 x h with h5|h5
    ·exact .inl ⟨_,q0,occF x h5⟩
    ·exact .inr ⟨h5,HasS.blocks _ k1 x h⟩)
  (fun xs T h=>by rw[q0] at h;cases h) (fun ver E2 xs h=>by rw[q0] at h;cases h)
  fun hSS _=>by
   refine ⟨[],⟨rfl,b,hv,HasS.frame _ k1 (fun _ _=>rfl) (fun _ _=>rfl) fun x hx=>?_⟩,.nil⟩
   have k4x:=k4 x hx
   refine ⟨?_,k4x.1,fun i o hi ho=>?_⟩
   ·rcases k3 x hx with h|h|h
    ·exact h.1
    ·exact .inr (hnk x h)
    ·exact .inr fun hk=>by have h1:=sm.hK x hk;have h2:=sm.ext.size;omega
   ·rw[zt] at hi
    by_cases e:i=1000000000
    ·subst e
     simp only [if_true] at hi ho
     cases hi
     rcases ze2.1 ho with h|h
     ·rw[hv] at h
      have:x=b:=by simpa [bk] using h.symm
      exact k4x.2 (this▸hbF)
     ·exact k4x.2 h
    ·simp only [e,if_false] at hi
     exact e (qn i o hi).1
 have eh:(σ.new 1000000000 (.clo (.set F' (stP (s.ins p))) [])).h=zd [((1000000000:Nat),Ow.clo (.set F' (stP (s.ins p))) [])]:=by
  rw[zt]
  funext j
  show (if j=1000000000 then _ else σ.h j)=(if 1000000000=j then _ else none)
  by_cases e:j=1000000000
  ·rw[if_pos e,if_pos e.symm]
  ·rw[if_neg e,if_neg (Ne.symm e),hσ]
   exact if_neg (Ne.symm e)
 refine ⟨_,.tup [],_,_,rfl,⟨F',trivial,rfl,rfl⟩,Sim.eqv (σ:=σ.new 1000000000 (.clo (.set F' (stP (s.ins p))) [])) ⟨fun _=>?_,eh⟩ s1,⟨[],rfl,.nil⟩⟩
 rw[hσ];rfl
theorem zms:AProc prog 148 [.c (.d (.sl 149 []))] [] (fun r own'=>r= .c (.own 7 0)∧own'= [(7,.cells [.d (.v (.slice none 0 0)),.d (.v (.slice none 0 0))] ziD)]):=by
 refine zaj [] func148 (by kernel_rfl) rfl ntmps148 results148 (Nat.le_of_ble_eq_true (by kernel_rfl)) ?_;intro hok w0 S0
 (repeat' (first|(with_reducible first|refine zj (fun _=>?_) (fun _=>?_)|refine zi (fun _=>?_) (fun _=>?_)|refine zk zb (by kernel_rfl) ?_|exact za rfl)|(simp -dsimp)));(all_goals try with_reducible refine za ?_)
 refine zF (fun _:Unit=>⟨[(3,.c (.own 7 0)),(8,.c (.d (.sl 149 []))),(9,aI 0),(10,aI 0)],[(7,.cells [.d (.v (.slice none 0 0)),.d (.v (.slice none 0 0))] ziD)]⟩) (fun _=>True) (fun _=>0) () ?_ trivial ?_
 ·exact Weak.same (by simp -dsimp) (by simp -dsimp) (by first|rfl|(simp [zg,Av.ids,Ow.ids,Cl.ids,Go.Smd.keys];done))
 ·rintro _ _ K hK
  (repeat' (first|(with_reducible first|refine zj (fun _=>?_) (fun _=>?_)|refine zi (fun _=>?_) (fun _=>?_)|refine zk zb (by kernel_rfl) ?_|exact za rfl)|(simp -dsimp)));(all_goals try with_reducible refine za ?_)
  exact ⟨rfl,rfl⟩
theorem zrU:AProc prog 148 [.c (.d (.sl 149 []))] [] (fun r own'=>∃F,True∧r= .c (.fn 7)∧own'= [(7,.clo (.set F (stP .empty)) [])]):=by
 refine ⟨zms.1,fun w E β vs s ha=>(zms.2 w E β vs s ha).mono ?_⟩
 rintro en w' ⟨v,r,β',own',rfl,⟨rfl,rfl⟩,s',hv⟩
 obtain ⟨_,_,b,_,h2,h3⟩:=hv
 obtain ⟨b',us,e1,e2,e3⟩:=s'.own 7 (.cells [.d (.v (.slice none 0 0)),.d (.v (.slice none 0 0))] ziD) rfl
 rw[h2] at e1
 cases e1
 obtain ⟨u1,us1,rfl,r1,e3⟩:=e3.inv
 obtain ⟨u2,us2,rfl,r2,e3⟩:=e3.inv
 cases e3.inv0
 cases (show RepD _ w' _ (.v (.slice none 0 0)) u1 from r1)
 cases (show RepD _ w' _ (.v (.slice none 0 0)) u2 from r2)
 have q2:∀i o,zd [((7:Nat),Ow.clo (.set [b] (stP .empty)) [])] i=some o→i=7∧o= .clo (.set [b] (stP .empty)) []:=fun i o h=>by
  simp only [zd] at h
  split at h
  ·next e=>cases h;exact ⟨e.symm,rfl⟩
  ·cases h
 have hb:=s'.new 7 _ b rfl (ZN.2 (by rw[h2];rfl))
 refine ⟨v,.c (.fn 7),β',[(7,.clo (.set [b] (stP .empty)) [])],rfl,⟨[b],trivial,rfl,rfl⟩,⟨s'.ext,s'.hK,fun i o0 hi0=>⟨(s'.kept i o0 hi0).1,fun o ho=>?_⟩,fun i j oi oj x hi hj _ _=>(q2 i oi hi).1.trans (q2 j oj hj).1.symm,fun i o x hi ho=>?_,fun i o hi=>?_,fun t=>trivial,rfl,fun d hd=>by simp [zhG] at hd⟩,⟨_,_,rfl,by rw[h3,h2],by rw[h3];rfl⟩⟩
 ·have:=(q2 i o ho).1
  have hz:=(s'.kept i o0 hi0).1
  unfold zed at hz
  omega
 ·obtain ⟨rfl,rfl⟩:=q2 i o hi
  rcases ze2.1 ho with h|h
  ·rw[h2] at h
   have:x=b:=by simpa [bk] using h.symm
   rw[this];exact hb
  ·have:x=b:=by simpa using h
   rw[this];exact hb
 ·obtain ⟨rfl,rfl⟩:=q2 i o hi
  refine ⟨[],⟨rfl,b,h2,?_⟩,.nil⟩
  simp only [PS.empty,stP,skP,List.map_nil,HasS]
  refine ⟨.slice none 0 0,.slice none 0 0,ziD,[],[],e2,Build.nil,Build.nil,⟨rfl,rfl⟩,by simp [Value.ownBlock],by simp,?_,?_⟩<;>simp [zly,zaN]
abbrev dLP (p:List EV):D:=zal (p.map zX)
theorem zrV (p:List EV)(hl:p.length*168≤140737488351232)(hp:∀e∈p,GoodE e):ACalls prog 104 [.c (.d (z9 p))] (fun r=>r= .c (.d (dLP p))):=zrD p hl fun e he=>(hp e he).s
theorem ztS (l:List (List EV))(hl:l.length≤3000000000000)(hp:∀p∈l,p.length*168≤140737488351232∧∀e∈p,GoodE e):ACalls prog 89 [.c (.d (zU l))] (fun r=>r= .c (.d (.pt (psD (mkP l))))):=by
 have b1:l.length≤9223372036854775807:=by omega
 refine zf [] func89 (by kernel_rfl) rfl ntmps89 results89 (Nat.le_of_ble_eq_true (by kernel_rfl)) ?_;intro hok w0 S0
 clear hok
 (repeat' (first|(with_reducible first|refine zj (fun _=>?_) (fun _=>?_)|refine zi (fun _=>?_) (fun _=>?_))|((with_reducible apply zl4 (ρ:=[]) 7 (zrU));(case hc=>simp -dsimp [b1]<;>first|exact ⟨rfl,rfl,rfl⟩|exact ⟨rfl,rfl⟩|done);(case hx=>simp -dsimp [b1]<;>with_reducible rfl);(case ho=>simp -dsimp [b1]);(case hh=>simp -dsimp [b1]);(case hb=>intro x hx;simp -dsimp [b1]);intro _ _)|(with_reducible first|refine zk zb (by kernel_rfl) ?_|exact za rfl)|(simp -dsimp [b1])));(all_goals try with_reducible refine za ?_)
 rename_i F0 _
 refine zF (fun x:Nat×List Nat=>⟨[(3,.c (.fn 8007)),(7,.c (.d (zU l))),(8,aI l.length),(9,aI x.1)],[(8007,.clo (.set x.2 (stP (mkP (l.take x.1)))) [])]⟩) (fun x=>x.1≤l.length) (fun x=>l.length - x.1) (0,F0) ?_ (Nat.zero_le _) ?_
 ·exact Weak.same (by simp -dsimp) (by simp -dsimp) (by first|rfl|(simp [zg,Av.ids,Ow.ids,Cl.ids,Go.Smd.keys];done))
 ·rintro ⟨i,F⟩ hi K hK
  have hi:i≤l.length:=hi
  by_cases hlt:i<l.length
  ·have hw:IntKind.wrap .i64 ((i:Int)+1)=((i+1:Nat):Int):=by rw[zq]<;>omega
   have hq:=hp _ (List.getElem_mem hlt)
   have hc:=zrV l[i] hq.1 hq.2
   have ht:∀p∈l.take i,∀e∈p,GoodE e:=fun p hm=>(hp p (List.mem_of_mem_take hm)).2
   have hok:=zfw _ _ rfl ht
   have hln:(l.take i).length=i:=by rw[List.length_take];omega
   rw[hln] at hok
   have hnx:mkP (l.take (i+1))=(mkP (l.take i)).ins l[i]:=by rw[List.take_succ_eq_append_getElem hlt,zdJ]
   have hins:=zmr (mkP (l.take i)) F i l[i] hok (by omega) hq.2
   rw[←hnx] at hins
   (repeat' (first|(with_reducible first|refine zj (fun _=>?_) (fun _=>?_)|refine zi (fun _=>?_) (fun _=>?_)|refine zl (hc) (by first|rfl|(simp -dsimp [b1,hlt,hw];done)) ?_)|((with_reducible apply zl4 (ρ:=[(1000000000,8007)]) 7 (hins));(case hc=>simp -dsimp [b1,hlt,hw]<;>first|exact ⟨rfl,rfl,rfl⟩|exact ⟨rfl,rfl⟩|done);(case hx=>simp -dsimp [b1,hlt,hw]<;>with_reducible rfl);(case ho=>simp -dsimp [b1,hlt,hw]);(case hh=>simp -dsimp [b1,hlt,hw]);(case hb=>intro x hx;simp -dsimp [b1,hlt,hw]);intro _ _)|(with_reducible first|refine zk zb (by kernel_rfl) ?_|exact za rfl)|(simp -dsimp [b1,hlt,hw])));(all_goals try with_reducible refine za ?_)
   rename_i F' _
   refine hK _ (i+1,F') ?_ (by show i+1≤_;omega) (by show l.length - (i+1)<_;omega)
   exact Weak.same (by simp -dsimp) (by simp -dsimp) (by first|rfl|(simp [zg,Av.ids,Ow.ids,Cl.ids,Go.Smd.keys];done))
  ·have hi2:i=l.length:=by omega
   subst hi2
   rw[List.take_of_length_le (Nat.le_refl _)]
   (repeat' (first|(with_reducible first|refine zj (fun _=>?_) (fun _=>?_)|refine zi (fun _=>?_) (fun _=>?_)|refine zk zb (by kernel_rfl) ?_|exact za rfl)|(simp -dsimp [b1])));(all_goals try with_reducible refine za ?_)
theorem ACalls.args {P:Program}{f:FuncId}{args args':List Av}{R:Av→Prop}(h:ACalls P f args R)(k:∀(w:World) (S:Nat→Prop) (vs:List Value),All2 (RepA P S noB noH w) args' vs→All2 (RepA P S noB noH w) args vs):ACalls P f args' R:=
 ⟨h.1,fun w S vs hS ha=>h.2 w S vs hS (k w S vs ha)⟩
theorem RepD.pre {P:Program}{w:World}{S:Nat→Prop}{xs ys:List D}{v:Value}(h:RepD P w S (.pt (xs++ys)) v):RepD P w S (.pt xs) v:=by
 obtain ⟨a,rfl,hr⟩:=RepD.pt_iff.1 h
 exact RepD.pt_iff.2 ⟨a,rfl,fun i d hi=>hr i d (by rw[List.getElem?_append_left (List.getElem?_eq_some_iff.1 hi).1];exact hi)⟩
theorem ACalls.pre1 {P:Program}{f:FuncId}{xs ys:List D}{R:Av→Prop}(h:ACalls P f [.c (.d (.pt xs))] R):ACalls P f [.c (.d (.pt (xs++ys)))] R:=h.args fun w S vs ha=>by
 obtain ⟨v,vs,rfl,h1,ha⟩:=ha.inv
 cases ha.inv0
 exact .cons (RepD.pre (show RepD P w S _ v from h1)) .nil
theorem ACalls.pre2 {P:Program}{f:FuncId}{xs ys xs' ys':List D}{R:Av→Prop}(h:ACalls P f [.c (.d (.pt xs)),.c (.d (.pt xs'))] R):ACalls P f [.c (.d (.pt (xs++ys))),.c (.d (.pt (xs'++ys')))] R:=h.args fun w S vs ha=>by
 obtain ⟨v,vs,rfl,h1,ha⟩:=ha.inv
 obtain ⟨v',vs,rfl,h2,ha⟩:=ha.inv
 cases ha.inv0
 exact .cons (RepD.pre (show RepD P w S _ v from h1)) (.cons (RepD.pre (show RepD P w S _ v' from h2)) .nil)
theorem zoy:∀(k:PK) (i:Nat) (h:i<(pkD k).length) (h1:i<k.es.length) (h2:i<k.ss.length),(pkD k)[i]=eD k.es[i]++ [.pt (psD k.ss[i])]
 | .nil,i,h,_,_=>by rw[zhn] at h;simp at h
 | .cons e s r,0,h,_,_=>by simp only [zeK,List.getElem_cons_zero,PK.es,PK.ss]
 | .cons e s r,i+1,h,h1,h2=>by
  simp only [zeK,List.getElem_cons_succ,PK.es,PK.ss]
  exact zoy r i (by rw[zeK] at h;simpa using h) (by simpa [PK.es] using h1) (by simpa [PK.ss] using h2)
theorem zdb (k:PK)(i:Nat)(h:i<(pkD k).length)(h1:i<k.es.length)(h2:i<k.ss.length):∃e0 e1 e2 e3 A B,(pkD k)[i]= [e0,e1,e2,e3,.pt [.sl tPE A,.sl tSN B]]∧eD k.es[i]= [e0,e1,e2,e3]∧leA (zX k.es[i])= .agg [.d e0,.d e1,.d e2,.d e3]∧psD k.ss[i]= [.sl tPE A,.sl tSN B]∧A=(k.ss[i]).ms.map eD∧B=pkD (k.ss[i]).ks:=by
 obtain ⟨e0,e1,e2,e3,he,he'⟩:=zbl (zX k.es[i])
 have hp:psD k.ss[i]= [.sl tPE ((k.ss[i]).ms.map eD),.sl tSN (pkD (k.ss[i]).ks)]:=by
  obtain ⟨ms,ks,hm⟩:∃ms ks,k.ss[i]= .mk ms ks:=by cases k.ss[i];exact ⟨_,_,rfl⟩
  rw[hm,zcI];rfl
 refine ⟨e0,e1,e2,e3,_,_,?_,he,he',hp,rfl,rfl⟩
 rw[zoy k i h h1 h2,hp]
 show leD (zX k.es[i])++_=_
 rw[he];rfl
mutual
theorem zgG {Q:PS→Prop}(h:∀ms ks,(∀s∈ks.ss,Q s)→Q (.mk ms ks)):∀s:PS,Q s
 | .mk ms ks=>h ms ks (pk_ind h ks)
theorem pk_ind {Q:PS→Prop}(h:∀ms ks,(∀s∈ks.ss,Q s)→Q (.mk ms ks)):∀k:PK,∀s∈k.ss,Q s
 | .nil,s,hs=>by simp [PK.ss] at hs
 | .cons _ t r,s,hs=>by
  have h1:=zgG h t
  have h2:=pk_ind h r
  simp only [PK.ss] at hs
  rcases List.mem_cons.1 hs with hs|hs
  ·rw[hs];exact h1
  ·exact h2 s hs
end
mutual
def PS.size:PS→Nat
 | .mk ms ks=>ms.length+ks.size
def PK.size:PK→Nat
 | .nil=>0
 | .cons _ s r=>s.size+r.size
end
mutual
def PS.none:PS→Bool
 | .mk ms ks=>ms.isEmpty && ks.none
def PK.none:PK→Bool
 | .nil=>true
 | .cons _ s r=>s.none && r.none
end
mutual
theorem PS.none_iff:∀s:PS,s.none=true↔s.size=0
 | .mk ms ks=>by
  simp only [PS.none,PS.size,Bool.and_eq_true,PK.none_iff ks,List.isEmpty_iff]
  constructor
  ·rintro ⟨rfl,h⟩;simp [h]
  ·intro h;exact ⟨List.eq_nil_of_length_eq_zero (by omega),by omega⟩
theorem PK.none_iff:∀k:PK,k.none=true↔k.size=0
 | .nil=>by simp only [PK.none,PK.size]
 | .cons e s r=>by simp only [PK.none,PK.size,Bool.and_eq_true,PS.none_iff s,PK.none_iff r];omega
end
theorem PK.none_all:∀k:PK,k.none=k.ss.all PS.none
 | .nil=>by simp only [PK.none,PK.ss,List.all_nil]
 | .cons e s r=>by simp only [PK.none,PK.ss,List.all_cons,PK.none_all r]
abbrev zdq (s:PS):Prop:=ACalls prog 105 [.c (.d (.pt (psD s)))] (fun r=>r=aV (.bool s.none))
theorem zrW (k:PK)(hb:k.es.length≤4000000000000)(h:∀s∈k.ss,zdq s):ACalls prog 161 [.c (.d (.pt [.sl tSN (pkD k)]))] (fun r=>r=aV (.bool k.none)):=by
 have hl:=zc9 k
 have hl2:=PK.ss_length k
 have b1:(pkD k).length≤9223372036854775807:=by omega
 rw[PK.none_all]
 refine zf [] func161 (by kernel_rfl) rfl ntmps161 results161 (Nat.le_of_ble_eq_true (by kernel_rfl)) ?_;intro hok w0 S0
 clear hok
 (repeat' (first|(with_reducible first|refine zj (fun _=>?_) (fun _=>?_)|refine zi (fun _=>?_) (fun _=>?_)|refine zk zb (by kernel_rfl) ?_|exact za rfl)|(simp -dsimp [b1])));(all_goals try with_reducible refine za ?_)
 refine zF (fun i:Nat=>⟨[(8,.c (.d (.sl tSN (pkD k)))),(9,aI (pkD k).length),(10,aI i)],[]⟩) (fun i=>i≤(pkD k).length∧∀(j:Nat) (h:j<k.ss.length),j<i→(k.ss[j]).none=true) (fun i=>(pkD k).length - i) 0 ?_ ⟨Nat.zero_le _,fun j _ h=>by omega⟩ ?_
 ·exact Weak.same (by simp -dsimp) (by simp -dsimp) (by first|rfl|(simp [zg,Av.ids,Ow.ids,Cl.ids,Go.Smd.keys];done))
 ·rintro i ⟨hi,hall⟩ K hK
  by_cases hlt:i<(pkD k).length
  ·have hw:IntKind.wrap .i64 ((i:Int)+1)=((i+1:Nat):Int):=by rw[zq]<;>omega
   have h1:i<k.es.length:=by omega
   have h2:i<k.ss.length:=by omega
   obtain ⟨e0,e1,e2,e3,A,B,hn,_,_,hp,_,_⟩:=zdb k i hlt h1 h2
   have hc:=h _ (List.getElem_mem h2)
   unfold zdq at hc
   rw[hp] at hc
   cases hz:(k.ss[i]).none with
   |false=>
    rw[hz] at hc
    have hf:k.ss.all PS.none=false:=by
     rw[←Bool.not_eq_true,List.all_eq_true]
     intro h0
     have:=h0 _ (List.getElem_mem h2)
     rw[hz] at this;cases this
    (repeat' (first|(with_reducible first|refine zj (fun _=>?_) (fun _=>?_)|refine zi (fun _=>?_) (fun _=>?_)|refine zl (hc) (by first|rfl|(simp -dsimp [b1,hlt,hw,hn];done)) ?_|refine zk zb (by kernel_rfl) ?_|exact za rfl)|(simp -dsimp [b1,hlt,hw,hn])));(all_goals try with_reducible refine za ?_)
    rw[hf]
   |true=>
    rw[hz] at hc
    (repeat' (first|(with_reducible first|refine zj (fun _=>?_) (fun _=>?_)|refine zi (fun _=>?_) (fun _=>?_)|refine zl (hc) (by first|rfl|(simp -dsimp [b1,hlt,hw,hn];done)) ?_|refine zk zb (by kernel_rfl) ?_|exact za rfl)|(simp -dsimp [b1,hlt,hw,hn])));(all_goals try with_reducible refine za ?_)
    refine hK _ (i+1) ?_ ⟨by omega,fun j hj hji=>?_⟩ (by omega)
    ·exact Weak.same (by simp -dsimp) (by simp -dsimp) (by first|rfl|(simp [zg,Av.ids,Ow.ids,Cl.ids,Go.Smd.keys];done))
    ·by_cases e:j=i
     ·subst e;exact hz
     ·exact hall j hj (by omega)
  ·have e:k.ss.all PS.none=true:=List.all_eq_true.2 fun s hs=>by
    obtain ⟨j,hj,rfl⟩:=List.getElem_of_mem hs
    exact hall j hj (by omega)
   (repeat' (first|(with_reducible first|refine zj (fun _=>?_) (fun _=>?_)|refine zi (fun _=>?_) (fun _=>?_)|refine zk zb (by kernel_rfl) ?_|exact za rfl)|(simp -dsimp [hlt])));(all_goals try with_reducible refine za ?_)
   rw[e]
theorem zpM (N:Nat)(hN:N≤3000000000000)(ms:List EV)(ks:PK)(ok:OkS N (.mk ms ks))(h:∀s∈ks.ss,zdq s):zdq (.mk ms ks):=by
 simp only [OkS] at ok
 unfold zdq
 simp only [PS.none]
 have c1:=ACalls.pre1 (ys:=[.sl tSN (pkD ks)]) (zrO (ms.map zX) (by simp;omega))
 have c2:=zrW ks (by omega) h
 have e1:zal (ms.map zX)= .sl tPE (ms.map eD):=by simp only [zal,List.map_map];rfl
 rw[e1,List.length_map] at c1
 simp only [List.cons_append,List.nil_append] at c1
 rw[zcI]
 have hq:ms.isEmpty=decide (ms.length=0):=by cases ms<;>simp
 rw[hq]
 generalize ms.map eD=MS at c1 ⊢
 generalize ms.length=z at c1 ⊢
 by_cases hz:0<z
 ·have hd:decide (z=0)=false:=by simp;omega
  rw[hd]
  refine zf [] func105 (by kernel_rfl) rfl ntmps105 results105 (Nat.le_of_ble_eq_true (by kernel_rfl)) ?_;intro hok w0 S0
  clear hok
  (repeat' (first|(with_reducible first|refine zj (fun _=>?_) (fun _=>?_)|refine zi (fun _=>?_) (fun _=>?_)|refine zl (c1) (by first|rfl|(simp -dsimp [hz];done)) ?_|refine zk zb (by kernel_rfl) ?_|exact za rfl)|(simp -dsimp [hz])));(all_goals try with_reducible refine za ?_)
 ·have hd:decide (z=0)=true:=by simp;omega
  rw[hd]
  refine zf [] func105 (by kernel_rfl) rfl ntmps105 results105 (Nat.le_of_ble_eq_true (by kernel_rfl)) ?_;intro hok w0 S0
  clear hok
  (repeat' (first|(with_reducible first|refine zj (fun _=>?_) (fun _=>?_)|refine zi (fun _=>?_) (fun _=>?_)|refine zl (c1) (by first|rfl|(simp -dsimp [hz];done)) ?_|refine zl (c2) (by first|rfl|(simp -dsimp [hz];done)) ?_|refine zk zb (by kernel_rfl) ?_|exact za rfl)|(simp -dsimp [hz])));(all_goals try with_reducible refine za ?_)
theorem zdK (N:Nat)(hN:N≤3000000000000):∀s:PS,OkS N s→zdq s:=
 zgG fun ms ks ih ok=>zpM N hN ms ks ok fun s h=>ih s h (by simp only [OkS] at ok;exact ok.2.2.2.2.2.2.all s h)
end Go.Smd
end
