/- Part 24. -/
import Derived.Test.YtdgnolbdcmgfoaaGreatQD21
import Derived.Test.YtdgnolbdcmgfoaaGreatQD23
import Derived.Test.YtdgnolbdcmgfoaaGreatQD15
set_option linter.unusedVariables false
set_option linter.unusedSimpArgs false
set_option maxRecDepth 100000
set_option maxHeartbeats 8000000
section
namespace Go.Smd
open Go.RowKit Go.Proofs Go.Proofs.Tryz
abbrev z9 (p:List EV):D:=.sl 29 (p.map evD)
abbrev zal (p:List LE):D:=.sl 101 (p.map leD)
theorem ztO {p:List EV}(h:okD prog (z9 p)):p.length*168≤140737488351232∧∀e∈p,e.keys.length*16≤140737488351232∧(∀k∈e.keys,k.size≤140737488351232)∧e.l.length*88≤140737488351232∧FitsE e:=by
 obtain ⟨h1,h2⟩:=zgr h
 simp at h1
 exact ⟨by omega,fun e he=>zwK (zoe h (List.mem_map.2 ⟨e,he,rfl⟩))⟩
structure EVs (e:EV):Prop where
 hk:e.keys.length*16≤140737488351232
 hl:e.l.length*88≤140737488351232
theorem zrC (e:EV)(hk:e.keys.length*16≤140737488351232)(hl:e.l.length*88≤140737488351232):ACalls prog 70 [evA e] (fun r=>r=leA (zX e)):=by
 obtain ⟨k,s,keys,l,⟨a,b,c,d,p,f⟩,n⟩:=e
 rw[zdE]
 exact zrz _ _ _ _ _ _ _ _ _ _ _ hk hl
theorem zrD (p:List EV)(hl:p.length*168≤140737488351232)(hp:∀e∈p,EVs e):ACalls prog 104 [.c (.d (z9 p))] (fun r=>r= .c (.d (zal (p.map zX)))):=by
 refine zf [] func104 (by kernel_rfl) rfl ntmps104 results104 (Nat.le_of_ble_eq_true (by kernel_rfl)) ?_;intro hok w0 S0
 clear hok
 have b1:p.length≤9223372036854775807:=by omega
 (repeat' (first|(with_reducible first|refine zj (fun _=>?_) (fun _=>?_)|refine zi (fun _=>?_) (fun _=>?_)|refine zk zb (by kernel_rfl) ?_|exact za rfl)|(simp -dsimp [b1])));(all_goals try with_reducible refine za ?_)
 refine zF (fun i:Nat=>⟨[(3,.c (.gs 6 i)),(7,.c (.d (z9 p))),(8,aI p.length),(9,aI i)],[(6,.arr i 101 ((p.map (leD∘zX)).take i))]⟩) (fun i=>i≤p.length) (fun i=>p.length - i) 0 ?_ (Nat.zero_le _) ?_
 ·exact Weak.same (by simp -dsimp) (by simp -dsimp) (by first|rfl|(simp [zg,Av.ids,Ow.ids,Cl.ids,Go.Smd.keys];done))
 ·rintro i hi K hK
  by_cases hlt:i<p.length
  ·have hw:IntKind.wrap .i64 ((i:Int)+1)=((i+1:Nat):Int):=by rw[zq]<;>omega
   have hb:(min i p.length+1)*32≤140737488351232:=by omega
   have h1:(p.map (leD∘zX)).take (i+1)=(p.map (leD∘zX)).take i++ [leD (zX p[i])]:=by
    rw[List.take_succ_eq_append_getElem (by simpa using hlt)];simp
   have he:=hp _ (List.getElem_mem hlt)
   have hc:=zrC p[i] he.hk he.hl
   (repeat' (first|(with_reducible first|refine zj (fun _=>?_) (fun _=>?_)|refine zi (fun _=>?_) (fun _=>?_)|refine zl (hc) (by first|rfl|(simp -dsimp [b1,hlt,hw,hb,zc];done)) ?_|refine zk zb (by kernel_rfl) ?_|exact za rfl)|(simp -dsimp [b1,hlt,hw,hb,zc])));(all_goals try with_reducible refine za ?_)
   refine hK _ (i+1) ?_ (by omega) (by omega)
   rw[h1]
   exact Weak.same (by simp -dsimp) (by simp -dsimp) (by first|rfl|(simp [zg,Av.ids,Ow.ids,Cl.ids,Go.Smd.keys];done))
  ·(repeat' (first|(with_reducible first|refine zj (fun _=>?_) (fun _=>?_)|refine zi (fun _=>?_) (fun _=>?_)|refine zk zb (by kernel_rfl) ?_|exact za rfl)|(simp -dsimp [hlt])));(all_goals try with_reducible refine za ?_)
   rw[List.take_of_length_le (by simp;omega)]
   show _=Av.c (.d (.sl _ ((p.map zX).map leD)))
   rw[List.map_map]
abbrev zU (L:List (List EV)):D:=.sl 22 (L.map fun p=>[z9 p])
def zC {α:Type}(c:α→α→Int):List α→List α→Int
 |x::l,y::m=>if c x y≠0 then c x y else zC c l m
 | [],[]=>0
 | [],_::_=> -1
 |_::_,[]=>1
theorem zd8 {α:Type}{c:α→α→Int}{l m:List α}(h:l= []∨m= []):zC c l m=zA (l.length:Int) m.length:=by
 cases l with
 |nil=>cases m with
  |nil=>simp [zC,zA]
  |cons y m=>simp only [zC,zA];rw[if_neg (by first|(simp;done)|(simp;omega)),if_pos (by first|(simp;done)|(simp;omega))]
 |cons x l=>cases m with
  |nil=>simp only [zC,zA];rw[if_pos (by first|(simp;done)|(simp;omega))]
  |cons y m=>simp at h
theorem zjY {α:Type}{c:α→α→Int}{l m:List α}{i:Nat}(h1:i<l.length)(h2:i<m.length):zC c (l.drop i) (m.drop i)=if c l[i] m[i]≠0 then c l[i] m[i] else zC c (l.drop (i+1)) (m.drop (i+1)):=by
 rw[List.drop_eq_getElem_cons h1,List.drop_eq_getElem_cons h2];simp only [zC]
theorem zeG {α:Type}{c:α→α→Int}{l m:List α}{i:Nat}(hi:i≤l.length)(hj:i≤m.length)(h:¬(i<l.length∧i<m.length)):zC c (l.drop i) (m.drop i)=zA (l.length:Int) m.length:=by
 rw[zd8 (by
  by_cases h1:i<l.length
  ·exact .inr (List.drop_eq_nil_of_le (by omega))
  ·exact .inl (List.drop_eq_nil_of_le (by omega))),List.length_drop,List.length_drop,←zfZ i hi hj]
theorem ziy {α β:Type}{c:α→α→Int}{d:β→β→Int}{f:α→β}:∀{l m:List α},(∀x∈l,∀y∈m,d (f x) (f y)=c x y)→zC d (l.map f) (m.map f)=zC c l m
 | [],[],_=>rfl
 | [],_::_,_=>rfl
 |_::_,[],_=>rfl
 |x::l,y::m,h=>by
  simp only [List.map_cons,zC]
  rw[ziy (l:=l) (m:=m) fun a ha b hb=>h a (List.mem_cons_of_mem _ ha) b (List.mem_cons_of_mem _ hb),h x (List.mem_cons_self ..) y (List.mem_cons_self ..)]
noncomputable def zeH (p q:ByteArray×Tree):Int:=if zbu p.1 q.1≠0 then zbu p.1 q.1 else znr p.2 q.2
theorem zd9 (a b:ByteArray):ACalls prog 198 [aS a,aS b] (fun r=>r=aI (zbu a b)):=zfU a b
theorem zen (l m:Fds)(hl:∀p∈l,zaM p.2)(hm:∀p∈m,zaM p.2):
  ACalls prog 199 [.c (.d (zja l)),.c (.d (zja m))] (fun r=>r=aI (zC zeH l m)):=by
 refine zf [(8,([10],[(0,[]),(1,[]),(2,[]),(3,[]),(4,[]),(5,[]),(6,[]),(7,[]),(8,[]),(9,[]),(10,[]),(11,[])])),(11,([10],[(0,[]),(1,[]),(2,[]),(3,[]),(4,[]),(5,[]),(6,[]),(7,[]),(8,[]),(9,[]),(10,[]),(11,[])]))] func199 (by kernel_rfl) rfl ntmps199 results199 (Nat.le_of_ble_eq_true (by kernel_rfl)) ?_;intro hok w0 S0
 have a1:l.length*32≤140737488351232:=by have:=(zgr (hok (.c (.d (zja l))) (by simp))).1;simpa using this
 have a2:m.length*32≤140737488351232:=by have:=(zgr (hok (.c (.d (zja m))) (by simp))).1;simpa using this
 clear hok
 have b1:l.length≤9223372036854775807:=by omega
 have b2:m.length≤9223372036854775807:=by omega
 (repeat' (first|(with_reducible first|refine zj (fun _=>?_) (fun _=>?_)|refine zi (fun _=>?_) (fun _=>?_)|refine zk zb (by kernel_rfl) ?_|exact za rfl)|(simp -dsimp)));(all_goals try with_reducible refine za ?_)
 refine zF (fun i:Nat=>⟨[(0,.c (.d (zja l))),(1,.c (.d (zja m))),(5,aI i)],[]⟩) (fun i=>i≤l.length∧i≤m.length∧zC zeH l m=zC zeH (l.drop i) (m.drop i)) (fun i=>l.length - i) 0 ?_ ⟨Nat.zero_le _,Nat.zero_le _,rfl⟩ ?_
 ·exact Weak.same (by simp -dsimp) (by simp -dsimp) (by first|rfl|(simp [zg,Av.ids,Ow.ids,Cl.ids,Go.Smd.keys];done))
 ·rintro i ⟨hi,hj,heq⟩ K hK
  have hw:IntKind.wrap .i64 ((i:Int)+1)=((i+1:Nat):Int):=by rw[zq]<;>omega
  by_cases h1:i<l.length
  ·have h3:¬(l.length:Int)≤i:=by omega
   by_cases h2:i<m.length
   ·have h4:¬(m.length:Int)≤i:=by omega
    have hc:=heq.trans (zjY h1 h2)
    have hs:=zd9 l[i].1 m[i].1
    have hv:=zfr l[i].2 m[i].2 (hl _ (List.getElem_mem h1)) (hm _ (List.getElem_mem h2))
    by_cases hy:zbu l[i].1 m[i].1=0
    ·have hf:zeH l[i] m[i]=znr l[i].2 m[i].2:=by unfold zeH;rw[if_neg (by simpa using hy)]
     rw[hf] at hc
     rw[hy] at hs
     by_cases hz:znr l[i].2 m[i].2=0
     ·rw[if_neg (by simpa using hz)] at hc
      rw[hz] at hv
      (repeat' (first|(with_reducible first|refine zj (fun _=>?_) (fun _=>?_)|refine zi (fun _=>?_) (fun _=>?_)|refine zl (hs) (by first|rfl|(simp -dsimp [hw,b1,b2,h1,h2,h3,h4,zbz];done)) ?_|(refine zx (hs) rfl ?_ ?_ ?_;iterate 2 exact by first|rfl|(simp -dsimp [hw,b1,b2,h1,h2,h3,h4,zbz];done))|refine zl (hv) (by first|rfl|(simp -dsimp [hw,b1,b2,h1,h2,h3,h4,zbz];done)) ?_|(refine zx (hv) rfl ?_ ?_ ?_;iterate 2 exact by first|rfl|(simp -dsimp [hw,b1,b2,h1,h2,h3,h4,zbz];done))|refine zk zb (by kernel_rfl) ?_|exact za rfl)|(simp -dsimp [hw,b1,b2,h1,h2,h3,h4,zbz])));(all_goals try with_reducible refine za ?_)
      refine hK _ (i+1) ?_ ⟨by omega,by omega,hc⟩ (by omega)
      exact Weak.same (by simp -dsimp) (by simp -dsimp) (by first|rfl|(simp [zg,Av.ids,Ow.ids,Cl.ids,Go.Smd.keys];done))
     ·rw[if_pos hz] at hc
      (repeat' (first|(with_reducible first|refine zj (fun _=>?_) (fun _=>?_)|refine zi (fun _=>?_) (fun _=>?_)|refine zl (hs) (by first|rfl|(simp -dsimp [hw,b1,b2,h1,h2,h3,h4,hz,zbz];done)) ?_|(refine zx (hs) rfl ?_ ?_ ?_;iterate 2 exact by first|rfl|(simp -dsimp [hw,b1,b2,h1,h2,h3,h4,hz,zbz];done))|refine zl (hv) (by first|rfl|(simp -dsimp [hw,b1,b2,h1,h2,h3,h4,hz,zbz];done)) ?_|(refine zx (hv) rfl ?_ ?_ ?_;iterate 2 exact by first|rfl|(simp -dsimp [hw,b1,b2,h1,h2,h3,h4,hz,zbz];done))|refine zk zb (by kernel_rfl) ?_|exact za rfl)|(simp -dsimp [hw,b1,b2,h1,h2,h3,h4,hz,zbz])));(all_goals try with_reducible refine za ?_)
      rw[hc]
    ·have hf:zeH l[i] m[i]=zbu l[i].1 m[i].1:=by unfold zeH;rw[if_pos hy]
     rw[hf,if_pos hy] at hc
     (repeat' (first|(with_reducible first|refine zj (fun _=>?_) (fun _=>?_)|refine zi (fun _=>?_) (fun _=>?_)|refine zl (hs) (by first|rfl|(simp -dsimp [hw,b1,b2,h1,h2,h3,h4,hy,zbz];done)) ?_|(refine zx (hs) rfl ?_ ?_ ?_;iterate 2 exact by first|rfl|(simp -dsimp [hw,b1,b2,h1,h2,h3,h4,hy,zbz];done))|refine zk zb (by kernel_rfl) ?_|exact za rfl)|(simp -dsimp [hw,b1,b2,h1,h2,h3,h4,hy,zbz])));(all_goals try with_reducible refine za ?_)
     rw[hc]
   ·have h4:(m.length:Int)≤i:=by omega
    have hc:=heq.trans (zeG hi hj fun h=>h2 h.2)
    (repeat' (first|(with_reducible first|refine zj (fun _=>?_) (fun _=>?_)|refine zi (fun _=>?_) (fun _=>?_)|refine zk zb (by kernel_rfl) ?_|exact za rfl)|(simp -dsimp [hw,b1,b2,h1,h2,h3,h4])));(all_goals try with_reducible refine za ?_)
    rw[hc];unfold zA;rw[if_pos (by omega)]
  ·have h3:(l.length:Int)≤i:=by omega
   have hc:=heq.trans (zeG hi hj fun h=>h1 h.1)
   by_cases h2:i<m.length
   ·have h4:¬(m.length:Int)≤i:=by omega
    (repeat' (first|(with_reducible first|refine zj (fun _=>?_) (fun _=>?_)|refine zi (fun _=>?_) (fun _=>?_)|refine zk zb (by kernel_rfl) ?_|exact za rfl)|(simp -dsimp [hw,b1,b2,h1,h2,h3,h4])));(all_goals try with_reducible refine za ?_)
    rw[hc];unfold zA;rw[if_neg (by omega),if_pos (by omega)]
   ·have h4:(m.length:Int)≤i:=by omega
    (repeat' (first|(with_reducible first|refine zj (fun _=>?_) (fun _=>?_)|refine zi (fun _=>?_) (fun _=>?_)|refine zk zb (by kernel_rfl) ?_|exact za rfl)|(simp -dsimp [hw,b1,b2,h1,h2,h3,h4])));(all_goals try with_reducible refine za ?_)
    rw[hc];unfold zA;rw[if_neg (by omega),if_neg (by omega)]
noncomputable def ZM:LE→LE→Int
 | .name s,.name s'=>zbu s s'
 | .name _,_=> -1
 |_,.name _=>1
 | .key l,.key m=>zC zeH l m
 | .key _,_=> -1
 |_,.key _=>1
 | .val t,.val u=>znr t u
 | .val _,_=> -1
 |_,.val _=>1
 | .idx n,.idx m=>zA n m
theorem zct (p q:LE)(hp:ZR p)(hq:ZR q):ACalls prog 156 [leA p,leA q] (fun r=>r=aI (ZM p q)):=by
 cases p<;>cases q
 all_goals
  simp only [ZR] at hp hq
  refine zf [(4,([8],[(0,[]),(1,[]),(2,[]),(3,[]),(4,[]),(5,[]),(6,[]),(7,[]),(8,[]),(9,[])])),(10,([8],[(0,[]),(1,[]),(2,[]),(3,[]),(4,[]),(5,[]),(6,[]),(7,[]),(8,[]),(9,[])])),(16,([8],[(0,[]),(1,[]),(2,[]),(3,[]),(4,[]),(5,[]),(6,[]),(7,[]),(8,[]),(9,[])])),(22,([],[(0,[]),(1,[]),(2,[]),(3,[]),(4,[]),(5,[]),(6,[]),(7,[]),(8,[])])),(24,([],[(0,[]),(1,[]),(2,[]),(3,[]),(4,[]),(5,[]),(6,[]),(7,[]),(8,[])]))] func156 (by kernel_rfl) rfl ntmps156 results156 (Nat.le_of_ble_eq_true (by kernel_rfl)) ?_;intro hok w0 S0
  clear hok
  (repeat' (first|(with_reducible first|refine zj (fun _=>?_) (fun _=>?_)|refine zi (fun _=>?_) (fun _=>?_)|refine zl (zen _ _ hp hq) (by first|rfl|(simp -dsimp;done)) ?_|refine zx (zen _ _ hp hq) rfl (by first|rfl|(simp -dsimp;done)) (by first|rfl|(simp -dsimp;done)) ?_|refine zl (zfr _ _ hp hq) (by first|rfl|(simp -dsimp;done)) ?_|refine zx (zfr _ _ hp hq) rfl (by first|rfl|(simp -dsimp;done)) (by first|rfl|(simp -dsimp;done)) ?_|refine zl (zd9 _ _) (by first|rfl|(simp -dsimp;done)) ?_|refine zx (zd9 _ _) rfl (by first|rfl|(simp -dsimp;done)) (by first|rfl|(simp -dsimp;done)) ?_|refine zk zb (by kernel_rfl) ?_|exact za rfl)|(simp -dsimp)));(all_goals try with_reducible refine za ?_)
 all_goals (try (simp only [ZM];done))
 all_goals (simp only [ZM,zA];repeat' split)<;>(try rfl)<;>omega
end Go.Smd
end
section
namespace Go.Smd
open Go.RowKit
section
variable {P:Program} {N:Nat} {w0:World} {S0:Env} {ops:Array Oper}
theorem zY {full base:List (Nat×Av)}{own:List (Nat×Ow)}{o:Oper}{d:Tmp}(hd:o.dst=some d)(hdk:Zd N o=true)(hv:zJ P ⟨full++base,own⟩ o=some (ze full base d)):Eff P N full base o own own:=fun σ e0 e1 e2 K hK=>by
 refine ⟨hdk,?_⟩
 have:zJ P σ o=some (ze full base d):=by rw[←hv];exact zaC e1 e0
 rw[this]
 refine hK _ (by rw[ZG];exact e0) fun t=>?_
 rw[Zl,hd]
 by_cases e:some d=some t
 ·rw[if_pos e,if_pos e];cases e;rfl
 ·rw[if_neg e,if_neg e]
end
section
variable {P:Program} {N:Nat} {w0:World} {S0:Env} {ops:Array Oper}
def zao (k:Nat)(x:Ow):List (Nat×Ow)→List (Nat×Ow)
 | []=>[(k,x)]
 |(j,y)::l=>if k<j then (k,x)::(j,y)::l else if k=j then (k,x)::l else (j,y)::zao k x l
def zQ:List (Nat×Ow)→List (Nat×Ow)
 | []=>[]
 |(k,x)::l=>zao k x (zQ l)
theorem zjZ (k:Nat)(x:Ow):∀(l:List (Nat×Ow)) (i:Nat),zd (zao k x l) i=if k=i then some x else zd l i
 | [],i=>by simp [zao,zd]
 |(j,y)::l,i=>by
  unfold zao
  by_cases h1:k<j
  ·rw[if_pos h1];simp only [zd]
  ·rw[if_neg h1]
   by_cases h2:k=j
   ·subst h2
    rw[if_pos rfl]
    simp only [zd]
    by_cases e:k=i
    ·simp [e]
    ·simp [e]
   ·rw[if_neg h2]
    simp only [zd,zjZ k x l i]
    by_cases e:j=i
    ·subst e;simp [h2]
    ·simp [e]
theorem zg2:∀(l:List (Nat×Ow)),zd (zQ l)=zd l
 | []=>rfl
 |(k,x)::l=>by
  funext i
  rw[zQ,zjZ,zg2 l]
  simp only [zd]
structure NodS where
 full:List (Nat×Av)
 base:List (Nat×Av)
 own:List (Nat×Ow)
def zpy (P:Program)(N:Nat)(n n':NodS)(o:Oper):Prop:=
 ∀σ:St,σ.h=zd n.own→(∀x∈o.op.operands,σ.ev x=(St.mk (n.full++n.base) n.own).ev x)→(∀t,σ.tmp t=ze n.full n.base t∨σ.tmp t=(zd n.base t).getD .any)→
  ∀K:St→Prop,(∀σ':St,σ'.h=zd n'.own→(∀t,o.dst=some t→σ'.tmp t=ze n'.full n'.base t)→
   (∀t,o.dst≠some t→(σ.tmp t=ze n.full n.base t→σ'.tmp t=ze n'.full n'.base t)∧(σ.tmp t=(zd n.base t).getD .any→σ'.tmp t=(zd n'.base t).getD .any))→K σ')→zhH P N σ o K
theorem zI {full base:List (Nat×Av)}{own own1 own':List (Nat×Ow)}{o:Oper}(h:Eff P N full base o own own1)(hc:zQ own1=own'):zpy P N ⟨full,base,own⟩ ⟨full,base,own'⟩ o:=fun σ e0 e1 e2 K hK=>
 h σ e0 e1 e2 K fun σ' h1 h2=>hK σ' (by rw[h1,←hc,zg2]) (fun t ht=>by rw[h2,if_pos ht]) fun t hn=>⟨fun k=>by rw[h2,if_neg hn];exact k,fun k=>by rw[h2,if_neg hn];exact k⟩
theorem zm {n:NodS}{o:Oper}(h:Eff P N n.full n.base o n.own n.own):zpy P N n n o:=fun σ e0 e1 e2 K hK=>
 h σ e0 e1 e2 K fun σ' h1 h2=>hK σ' h1 (fun t ht=>by rw[h2,if_pos ht]) fun t hn=>⟨fun k=>by rw[h2,if_neg hn];exact k,fun k=>by rw[h2,if_neg hn];exact k⟩
def zrE:List (List Nat)→Nat→Option (List Nat)
 | [],_=>none
 |x::_,0=>some x
 |_::l,i+1=>zrE l i
def zbU (r:List (List Nat))(i j:Nat):Bool:=match zrE r i with|some l=>l.contains j|none=>false
def rOk (ops:Array Oper)(r:List (List Nat)):Bool:=
 decide (r.length≤ops.size) && (List.range ops.size).all fun i=>match ops[i]? with
  |some o=>(match zrE r i with
   |some l=>l.all fun j=>o.after.any fun e=>Region.binds .any e && decide (e.on<i) && (e.on==j||zbU r e.on j)
   |none=>true)
  |none=>false
theorem zol:∀{l:List (List Nat)} {i:Nat} {x:List Nat},zrE l i=some x→i<l.length
 | [],i,_,h=>by cases h
 |y::l,0,_,_=>by simp
 |y::l,i+1,_,h=>by
  have:=zol (l:=l) (i:=i) h
  simp only [List.length_cons];omega
theorem ze7 {r:List (List Nat)}(hrk:rOk ops r=true){listed:Array Bool}(hc:Closed ops listed):∀(i j:Nat),zbU r i j=true→(∀o,ops[i]? =some o→∀e∈o.after,Region.binds .any e=true→listed.getD e.on false=true)→listed.getD j false=true:=by
 intro i
 induction i using Nat.strongRecOn with
 |_ i ih=>
  intro j hj ha
  unfold rOk at hrk
  rw[Bool.and_eq_true,decide_eq_true_eq] at hrk
  unfold zbU at hj
  cases hn:zrE r i with
  |none=>rw[hn] at hj;cases hj
  |some l=>
   rw[hn] at hj
   have hlt:=zol hn
   have:=List.all_eq_true.1 hrk.2 i (List.mem_range.2 (by omega))
   cases ho:ops[i]? with
   |none=>rw[ho] at this;cases this
   |some o=>
    rw[ho] at this
    simp only [hn] at this
    have h2:=List.all_eq_true.1 this j (by simpa using hj)
    obtain ⟨e,he,h3⟩:=Array.any_eq_true'.1 h2
    simp only [Bool.and_eq_true,Bool.or_eq_true,decide_eq_true_eq,beq_iff_eq] at h3
    obtain ⟨⟨hb,hlt2⟩,h4⟩:=h3
    have hl:=ha o ho e he hb
    rcases h4 with h4|h4
    ·rw[←h4];exact hl
    ·exact ih e.on hlt2 j h4 fun o' ho'=>hc e.on o' ho' hl
def zpz:List Nat→List Nat→Bool
 | [],[]=>true
 |a::l,b::m=>match Nat.beq a b with|true=>zpz l m|false=>false
 |_,_=>false
theorem zom:∀{l m:List Nat},zpz l m=true→l=m
 | [],[],_=>rfl
 | [],_::_,h=>by cases h
 |_::_,[],h=>by cases h
 |a::l,b::m,h=>by
  unfold zpz at h
  cases e:Nat.beq a b with
  |false=>rw[e] at h;cases h
  |true=>
   rw[e] at h
   rw[Nat.eq_of_beq_eq_true e,zom h]
def zdj:List (List Nat×NodS)→List Nat→Option NodS
 | [],_=>none
 |(k,n)::l,ps=>match zpz k ps with|true=>some n|false=>zdj l ps
def zon (cs ps:List Nat)(c:Nat):List Nat:=cs.filter fun x=>x==c||ps.contains x
def zoo (P:Program)(N:Nat)(ops:Array Oper)(r:List (List Nat))(cs ps:List Nat)(n:NodS):List Nat→Prop
 | []=>True
 |i::is=>((cs.contains i||cs.any fun d=>if ps.contains d then zbU r d i else zbU r i d)=true∨∃o,nth ops.toList i=some o∧zpy P N n n o)∧zoo P N ops r cs ps n is
def zla (P:Program)(N:Nat)(ops:Array Oper)(r:List (List Nat))(cs:List Nat)(G:List (List Nat×NodS))(ps:List Nat)(n:NodS):List Nat→Prop
 | []=>True
 |c::l=>((ps.contains c||cs.any fun d=> !ps.contains d && zbU r c d)=true∨∃o n',nth ops.toList c=some o∧zdj G (zon cs ps c)=some n'∧zpy P N n n' o)∧zla P N ops r cs G ps n l
def zlb (P:Program)(N:Nat)(ops:Array Oper)(r:List (List Nat))(cs is:List Nat)(G:List (List Nat×NodS)):List (List Nat×NodS)→Prop
 | []=>True
 |(ps,n)::l=>(zoo P N ops r cs ps n is∧zla P N ops r cs G ps n cs)∧zlb P N ops r cs is G l
theorem zmg {r:List (List Nat)}{cs ps:List Nat}{n:NodS}:∀{is:List Nat},zoo P N ops r cs ps n is→∀i∈is,(cs.contains i||cs.any fun d=>if ps.contains d then zbU r d i else zbU r i d)=false→∀o,ops[i]? =some o→zpy P N n n o
 | [],_,i,hi,_,_,_=>by cases hi
 |j::is,⟨h,t⟩,i,hi,hs,o,ho=>by
  rcases List.mem_cons.1 hi with rfl|hi
  ·rcases h with h|⟨o',h1,h3⟩
   ·rw[hs] at h;cases h
   ·have:=ZQ h1
    rw[ho] at this;cases this;exact h3
  ·exact zmg t i hi hs o ho
theorem zj0 {r:List (List Nat)}{cs ps:List Nat}{G:List (List Nat×NodS)}{n:NodS}:∀{l:List Nat},zla P N ops r cs G ps n l→∀c∈l,(ps.contains c||cs.any fun d=> !ps.contains d && zbU r c d)=false→∀o,ops[c]? =some o→∃n',zdj G (zon cs ps c)=some n'∧zpy P N n n' o
 | [],_,i,hi,_,_,_=>by cases hi
 |j::is,⟨h,t⟩,i,hi,hs,o,ho=>by
  rcases List.mem_cons.1 hi with rfl|hi
  ·rcases h with h|⟨o',n',h1,h2,h3⟩
   ·rw[hs] at h;cases h
   ·have:=ZQ h1
    rw[ho] at this;cases this;exact ⟨n',h2,h3⟩
  ·exact zj0 t i hi hs o ho
theorem zj1 {r:List (List Nat)}{cs is:List Nat}{G0:List (List Nat×NodS)}:∀{G:List (List Nat×NodS)},zlb P N ops r cs is G0 G→∀ps n,zdj G ps=some n→zoo P N ops r cs ps n is∧zla P N ops r cs G0 ps n cs
 | [],_,_,_,h=>by cases h
 |(k,m)::G,⟨h,t⟩,ps,n,hl=>by
  unfold zdj at hl
  cases e:zpz k ps with
  |true=>rw[e] at hl;cases hl;have:=zom e;subst this;exact h
  |false=>rw[e] at hl;exact zj1 t ps n hl
structure AtN (ops:Array Oper) (n:NodS) (listed:Array Bool) (σ:St):Prop where
 o:σ.h=zd n.own
 t1:∀(j:Nat) (oj:Oper) (t:Tmp),ops[j]? =some oj→oj.dst=some t→listed.getD j false=true→σ.tmp t=ze n.full n.base t
 t0:∀t:Tmp,(∀(j:Nat) (oj:Oper),ops[j]? =some oj→oj.dst=some t→listed.getD j false=false)→σ.tmp t=(zd n.base t).getD .any
def keyOf (cs:List Nat)(listed:Array Bool):List Nat:=cs.filter fun c=>listed.getD c false
structure DN (N:Nat) (ops:Array Oper) (cs:List Nat) (G:List (List Nat×NodS)):Prop where
 gd:∀(i:Nat) (o:Oper),ops[i]? =some o→o.guard=none
 dep:∀(i:Nat) (o:Oper),ops[i]? =some o→∀t∈o.looksAt ops,∀(j:Nat) (oj:Oper),ops[j]? =some oj→oj.dst=some t→∃e∈o.after,Region.binds .any e=true∧e.on=j
 key:∀ps n,zdj G ps=some n→∀t,(zd n.full t).isSome=true→∃(j:Nat) (oj:Oper),ops[j]? =some oj∧oj.dst=some t
 lt:∀c∈cs,c<ops.size
theorem AtN.sees {cs:List Nat}{G:List (List Nat×NodS)}{n:NodS}{listed:Array Bool}{σ:St}(A:AtN ops n listed σ)(D:DN N ops cs G){ps:List Nat}(hn:zdj G ps=some n){i:Nat}{o:Oper}(ho:ops[i]? =some o)(hr:∀e∈o.after,Region.binds .any e=true→listed.getD e.on false=true):
  ∀x∈o.op.operands,σ.ev x=(St.mk (n.full++n.base) n.own).ev x:=by
 refine zO (ops:=ops) fun t ht=>?_
 rw[zdB]
 by_cases hj:∃(j:Nat) (oj:Oper),ops[j]? =some oj∧oj.dst=some t
 ·obtain ⟨j,oj,h1,h2⟩:=hj
  obtain ⟨e,he,hb,rfl⟩:=D.dep i o ho t ht j oj h1 h2
  exact A.t1 _ oj t h1 h2 (hr e he hb)
 ·rw[A.t0 t fun j oj h1 h2=>absurd ⟨j,oj,h1,h2⟩ hj]
  unfold ze
  cases hf:zd n.full t with
  |none=>rfl
  |some x=>obtain ⟨j,oj,h1,h2⟩:=D.key ps n hn t (by rw[hf];rfl);exact absurd ⟨j,oj,h1,h2⟩ hj
theorem zvA {r:List (List Nat)}(hrk:rOk ops r=true){cs:List Nat}{G:List (List Nat×NodS)}{K:St→Prop}(D:DN N ops cs G){is:List Nat}(ht:zi4 ops [] is=true)(hall:∀i,i<ops.size→i∈is)(hg:zlb P N ops r cs is G G){nF:NodS}(hF:zdj G cs=some nF)
  (hK:∀σ:St,σ.h=zd nF.own→(∀t,σ.tmp t=ze nF.full nF.base t)→K σ):∀(m:Nat) (n:NodS) (listed:Array Bool) (σ:St),zdj G (keyOf cs listed)=some n→
   listed.size=ops.size→unl ops.size listed≤m→Closed ops listed→AtN ops n listed σ→zpj P N ops K m listed σ:=by
 have fin:∀(n:NodS) (listed:Array Bool) (σ:St),zdj G (keyOf cs listed)=some n→listed.size=ops.size→Region.ready .any ops listed= []→AtN ops n listed σ→K σ:=fun n listed σ hn hs hr A=>by
  have hl:∀i,i<ops.size→listed.getD i false=true:=fun i hi=>by
   rw[zc5 (by rw[hs];exact hi) false true]
   cases hq:listed.getD i true with
   |true=>rfl
   |false=>
    obtain ⟨j,hj⟩:=zd4 ht (fun _ h=>by cases h) hs ⟨i,hall i hi,hq⟩
    rw[hr] at hj;cases hj
  have hk:keyOf cs listed=cs:=List.filter_eq_self.2 fun c hc=>hl c (D.lt c hc)
  rw[hk,hF] at hn
  cases hn
  refine hK σ A.o fun t=>?_
  by_cases hj:∃(j:Nat) (oj:Oper),ops[j]? =some oj∧oj.dst=some t
  ·obtain ⟨j,oj,h1,h2⟩:=hj
   exact A.t1 j oj t h1 h2 (hl j (Array.getElem?_eq_some_iff.1 h1).1)
  ·rw[A.t0 t fun j oj h1 h2=>absurd ⟨j,oj,h1,h2⟩ hj]
   unfold ze
   cases hf:zd nF.full t with
   |none=>rfl
   |some x=>obtain ⟨j,oj,h1,h2⟩:=D.key _ nF hF t (by rw[hf];rfl);exact absurd ⟨j,oj,h1,h2⟩ hj
 intro m
 induction m with
 |zero=>
  intro n listed σ hn hs hu hcl A
  have hr:Region.ready .any ops listed= []:=by
   cases hq:Region.ready .any ops listed with
   |nil=>rfl
   |cons i l=>
    obtain ⟨h1,o,ho,_⟩:=mem_ready.1 (show i∈Region.ready .any ops listed by rw[hq];exact List.mem_cons_self ..)
    have:=zdi hs (Array.getElem?_eq_some_iff.1 ho).1 h1
    omega
  exact ⟨hr,fin n listed σ hn hs hr A⟩
 |succ m ih=>
  intro n listed σ hn hs hu hcl A
  refine ⟨fun hr=>fin n listed σ hn hs hr A,fun i hi=>?_⟩
  obtain ⟨hl,o,ho,hr⟩:=mem_ready.1 hi
  have hin:=(Array.getElem?_eq_some_iff.1 ho).1
  have hli:listed.getD i false=false:=by rw[zc5 (by rw[hs];exact hin) false true];exact hl
  have hgd:=D.gd i o ho
  have hset:∀j,(listed.setIfInBounds i true).getD j false=if i=j then true else listed.getD j false:=fun j=>by
   by_cases e:i=j
   ·subst e;simp [hs,hin]
   ·rw[if_neg e];exact getD_set_ne false e
  have hkc:∀c∈cs,(keyOf cs listed).contains c=listed.getD c false:=fun c hc=>by
   rw[Bool.eq_iff_iff,List.contains_iff_mem,keyOf,List.mem_filter]
   exact ⟨fun h=>h.2,fun h=>⟨hc,h⟩⟩
  have w1:∀d,zbU r i d=true→listed.getD d false=true:=fun d hw=>ze7 hrk hcl i d hw fun o' ho'=>by rw[ho] at ho';cases ho';exact hr
  have w2:∀d,listed.getD d false=true→zbU r d i=false:=fun d hd=>by
   cases hq:zbU r d i with
   |false=>rfl
   |true=>
    have:=ze7 hrk hcl d i hq fun o' ho'=>hcl d o' ho' hd
    rw[hli] at this;cases this
  have tt:∀(n':NodS) (σ':St),σ'.h=zd n'.own→(∀t,o.dst=some t→σ'.tmp t=ze n'.full n'.base t)→(∀t,o.dst≠some t→(σ.tmp t=ze n.full n.base t→σ'.tmp t=ze n'.full n'.base t)∧(σ.tmp t=(zd n.base t).getD .any→σ'.tmp t=(zd n'.base t).getD .any))→AtN ops n' (listed.setIfInBounds i true) σ':=fun n' σ' h1 h2 h3=>by
   refine ⟨h1,fun j oj t hj hd hlj=>?_,fun t hno=>?_⟩
   ·by_cases e:o.dst=some t
    ·exact h2 t e
    ·rw[hset] at hlj
     by_cases ej:i=j
     ·subst ej;rw[ho] at hj;cases hj;exact absurd hd e
     ·rw[if_neg ej] at hlj;exact (h3 t e).1 (A.t1 j oj t hj hd hlj)
   ·have hne:o.dst≠some t:=fun e=>by
     have:=hno i o ho e
     rw[hset,if_pos rfl] at this;cases this
    refine (h3 t hne).2 (A.t0 t fun j oj hj hd=>?_)
    have:=hno j oj hj hd
    rw[hset] at this
    by_cases ej:i=j
    ·rw[if_pos ej] at this;cases this
    ·rw[if_neg ej] at this;exact this
  have e2:∀t,σ.tmp t=ze n.full n.base t∨σ.tmp t=(zd n.base t).getD .any:=fun t=>by
   by_cases hj:∃(j:Nat) (oj:Oper),ops[j]? =some oj∧oj.dst=some t∧listed.getD j false=true
   ·obtain ⟨j,oj,h1,h2,h3⟩:=hj
    exact .inl (A.t1 j oj t h1 h2 h3)
   ·refine .inr (A.t0 t fun j oj h1 h2=>?_)
    cases hq:listed.getD j false with
    |false=>rfl
    |true=>exact absurd ⟨j,oj,h1,h2,hq⟩ hj
  refine ⟨o,ho,?_⟩
  unfold opX
  have hgo:zW ops σ o=some true:=by unfold zW;rw[hgd]
  rw[hgo]
  refine ⟨fun _=>?_,fun h=>by cases h⟩
  obtain ⟨gv,gs⟩:=zj1 hg _ n hn
  by_cases hic:i∈cs
  ·obtain ⟨n',hn',heff⟩:=zj0 gs i hic (by
    rw[Bool.or_eq_false_iff]
    refine ⟨by rw[hkc i hic];exact hli,?_⟩
    cases hq:cs.any fun d=> !(keyOf cs listed).contains d && zbU r i d with
    |false=>rfl
    |true=>
     obtain ⟨d,hd,h1⟩:=List.any_eq_true.1 hq
     rw[Bool.and_eq_true] at h1
     rw[hkc d hd,w1 d h1.2] at h1
     cases h1.1) o ho
   refine heff σ A.o (A.sees D hn ho hr) e2 _ fun σ' h1 h2 h3=>ih n' _ σ' ?_ (by simp [hs]) (by have:=zdi hs hin hl;omega) (hcl.set hi) (tt n' σ' h1 h2 h3)
   rw[←hn']
   congr 1
   refine List.filter_congr fun x hx=>?_
   rw[hset,hkc x hx]
   by_cases e:i=x
   ·subst e;simp
   ·have:(x==i)=false:=by simpa using Ne.symm e
    rw[if_neg e,this,Bool.false_or]
  ·refine zmg gv i (hall i hin) ?_ o ho σ A.o (A.sees D hn ho hr) e2 _ fun σ' h1 h2 h3=>ih n _ σ' ?_ (by simp [hs]) (by have:=zdi hs hin hl;omega) (hcl.set hi) (tt n σ' h1 h2 h3)
   ·rw[Bool.or_eq_false_iff]
    refine ⟨by simpa using hic,?_⟩
    cases hq:cs.any fun d=>if (keyOf cs listed).contains d then zbU r d i else zbU r i d with
    |false=>rfl
    |true=>
     obtain ⟨d,hd,h1⟩:=List.any_eq_true.1 hq
     rw[hkc d hd] at h1
     cases h2:listed.getD d false with
     |true=>rw[h2,if_pos rfl,w2 d h2] at h1;cases h1
     |false=>
      rw[h2,if_neg (by simp)] at h1
      rw[w1 d h1] at h2;cases h2
   ·rw[←hn]
    congr 1
    refine List.filter_congr fun x hx=>?_
    rw[hset,if_neg (fun e:i=x=>hic (by rw[e];exact hx))]
def zwL (N:Nat)(ops:Array Oper)(r:List (List Nat))(cs is:List Nat)(ks:List (List Nat)):Bool:=
 (List.range ops.size).all (fun i=>match ops[i]? with
  |some o=>o.guard.isNone &&
   (o.looksAt ops).all (fun t=>(List.range ops.size).all fun j=>(match ops[j]? with|some oj=> !(oj.dst==some t)||o.after.any (fun e=>Region.binds .any e && e.on==j)|none=>true))
  |none=>false) &&
 ks.all (fun k=>k.all fun t=>(List.range ops.size).any fun j=>match ops[j]? with|some oj=>oj.dst==some t|none=>false) &&
 zi4 ops [] is && (List.range ops.size).all is.contains && cs.all (fun c=>decide (c<ops.size)) && rOk ops r
theorem zj2:∀{G:List (List Nat×NodS)} {ps:List Nat} {n:NodS},zdj G ps=some n→∃k,(k,n)∈G
 | [],_,_,h=>by cases h
 |(k,m)::G,ps,n,h=>by
  unfold zdj at h
  cases e:zpz k ps with
  |true=>rw[e] at h;cases h;exact ⟨k,List.mem_cons_self ..⟩
  |false=>rw[e] at h;obtain ⟨k',hk⟩:=zj2 h;exact ⟨k',List.mem_cons_of_mem _ hk⟩
theorem Zz {id:Nat}{l:List Oper}{Q:Exit→St→Prop}{base:List (Nat×Av)}{own0:List (Nat×Ow)}(hm:P.follows .mixedOrders=true)(r:List (List Nat))(is cs:List Nat)(G:List (List Nat×NodS)){n0 nF:NodS}
  (hok:zwL N l.toArray r cs is (G.map fun p=>p.2.full.map (·.1))=true) (h0:zdj G []=some n0) (hF:zdj G cs=some nF) (hb:n0.base=base) (ho:zd n0.own=zd own0) (hst:zlb P N l.toArray r cs is G G)
  (h:Q .normal ⟨nF.full++nF.base,nF.own⟩):AWp P N w0 S0 (.region id l.toArray true) Q ⟨base,own0⟩:=fun β a w s=>by
 simp only [zwL,Bool.and_eq_true] at hok
 obtain ⟨⟨⟨⟨⟨k1,k2⟩,k3⟩,k4⟩,k5⟩,k6⟩:=hok
 have kk:∀(i:Nat) (o:Oper),l.toArray[i]? =some o→o.guard=none∧∀t∈o.looksAt l.toArray,∀(j:Nat) (oj:Oper),l.toArray[j]? =some oj→oj.dst=some t→∃e∈o.after,Region.binds .any e=true∧e.on=j:=fun i o ho=>by
  have:=List.all_eq_true.1 k1 i (List.mem_range.2 (Array.getElem?_eq_some_iff.1 ho).1)
  rw[ho] at this
  simp only [Bool.and_eq_true] at this
  obtain ⟨h1,h4⟩:=this
  refine ⟨Option.isNone_iff_eq_none.1 h1,fun t ht j oj hj hd=>?_⟩
  have h5:=List.all_eq_true.1 (List.all_eq_true.1 h4 t ht) j (List.mem_range.2 (Array.getElem?_eq_some_iff.1 hj).1)
  rw[hj] at h5
  simp only [hd,beq_self_eq_true,Bool.not_true,Bool.false_or] at h5
  obtain ⟨e,he,hb⟩:=Array.any_eq_true'.1 h5
  simp only [Bool.and_eq_true,beq_iff_eq] at hb
  exact ⟨e,he,hb.1,hb.2⟩
 have D:DN N l.toArray cs G:=⟨fun i o ho=>(kk i o ho).1,fun i o ho=>(kk i o ho).2,fun ps n hn t ht=>by
  obtain ⟨k,hk⟩:=zj2 hn
  obtain ⟨x,hx⟩:=Option.isSome_iff_exists.1 ht
  have:=List.all_eq_true.1 (List.all_eq_true.1 k2 _ (List.mem_map.2 ⟨_,hk,rfl⟩)) t (List.mem_map.2 ⟨_,Zn hx,rfl⟩)
  obtain ⟨j,hj,h6⟩:=List.any_eq_true.1 this
  cases ho:l.toArray[j]? with
  |none=>rw[ho] at h6;cases h6
  |some oj=>rw[ho] at h6;exact ⟨j,oj,ho,by simpa using h6⟩,fun c hc=>by have:=List.all_eq_true.1 k5 c hc;simpa using this⟩
 have hcl:Closed l.toArray (Array.replicate l.toArray.size false):=fun j o ho hl=>by
  rw[Array.getD_eq_getD_getElem?,Array.getElem?_replicate] at hl
  split at hl<;>cases hl
 have hlf:∀i,(Array.replicate l.toArray.size false).getD i false=false:=fun i=>by
  rw[Array.getD_eq_getD_getElem?,Array.getElem?_replicate];split<;>rfl
 have hk0:keyOf cs (Array.replicate l.toArray.size false)= []:=List.filter_eq_nil_iff.2 fun c _=>by rw[hlf];exact Bool.false_ne_true
 have h1:=zvA (P:=P) (K:=fun σ=>∃τ,Eqv τ σ∧Q .normal τ) k6 D k3 (fun i hi=>by simpa using List.all_eq_true.1 k4 i (List.mem_range.2 hi)) hst hF
  (fun σ h2 h3=>⟨⟨nF.full++nF.base,nF.own⟩,⟨fun t=>by rw[zdB,h3],h2.symm⟩,h⟩) l.toArray.size n0 (Array.replicate l.toArray.size false) ⟨base,own0⟩ (by rw[hk0];exact h0) (by simp) (by
   have:=List.length_filter_le (fun i=> !(Array.replicate l.toArray.size false).getD i true) (List.range l.toArray.size)
   rw[List.length_range] at this;exact this) hcl ⟨ho.symm,fun j oj t _ _ h=>(by rw[hlf] at h;cases h),fun t _=>by subst hb;rfl⟩
 refine wp_region_any hm (zez (fun β σ a w ⟨τ,e,hq⟩ s=>⟨β,τ,hq,s.eqv e.symm⟩) _ _ β _ a _ h1 (s.grow (w':=w.drew) ?_).1)
 exact (Ext.refl w).drew
end
end Go.Smd
end
