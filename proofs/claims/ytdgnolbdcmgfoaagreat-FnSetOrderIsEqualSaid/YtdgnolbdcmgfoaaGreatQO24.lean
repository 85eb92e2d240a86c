/- Part 24 of the proof: Cs Ct Cu Pt Cv Az. -/
import Derived.Test.YtdgnolbdcmgfoaaGreatQO23
import Derived.Test.YtdgnolbdcmgfoaaGreatQO15
set_option linter.unusedVariables false
set_option linter.unusedSimpArgs false
set_option maxRecDepth 100000
set_option maxHeartbeats 8000000
section
namespace Go.Smd
open Go.RowKit Go.Proofs Go.Proofs.Tryz
def zb6 (s t:ByteArray):Int:=Lib.compareBytes s.data.toList t.data.toList
def rkV (k:Int):Int:=if k=2∨k=3 then 0 else if k=4 then 1 else if k=1 then 2 else if k=5 then 3 else if k=6 then 4 else 5
mutual
def zbJ:GV→GV→Int
 | .mk k n f s ks l,.mk k' n' f' s' ks' l'=>
  if zT (rkV k) (rkV k')≠0 then zT (rkV k) (rkV k')
  else if rkV k=0 then (if k=2∧k'=2 then zT n n' else zbv (asF k n f) (asF k' n' f'))
  else if rkV k=1 then zb6 s s'
  else if rkV k=2 then zT n n'
  else if rkV k=3 then cmpPs l l'
  else if rkV k=4 then cmpPm ks l ks' l'
  else 0
def cmpPs:List GV→List GV→Int
 |x::l,y::m=>if zbJ x y≠0 then zbJ x y else cmpPs l m
 | [],[]=>0
 | [],_::_=> -1
 |_::_,[]=>1
def cmpPm:List ByteArray→List GV→List ByteArray→List GV→Int
 |k::ks,x::l,k'::ks',y::l'=>if zb6 k k'≠0 then zb6 k k' else if zbJ x y≠0 then zbJ x y else cmpPm ks l ks' l'
 |ks,_,ks',_=>zT ks.length ks'.length
end
theorem zkk (a:Int):zT a a=0:=by unfold zT;simp
theorem zrL (a b c:Int):zT (a+c) (b+c)=zT a b:=by
 unfold zT
 by_cases h1:b<a
 ·rw[if_pos h1,if_pos (by omega)]
 ·by_cases h2:a<b
  ·rw[if_neg h1,if_pos h2,if_neg (by omega),if_pos (by omega)]
  ·rw[if_neg h1,if_neg h2,if_neg (by omega),if_neg (by omega)]
theorem zrM {a b:Nat}(c:Nat)(ha:c≤a)(hb:c≤b):zT (a:Int) b=zT ((a - c:Nat):Int) ((b - c:Nat):Int):=by
 rw[←zrL ((a - c:Nat):Int) ((b - c:Nat):Int) c]
 congr 1<;>omega
theorem zdw (a b:UInt8)(l m:List UInt8):Lib.compareBytes (a::l) (b::m)=if a=b then Lib.compareBytes l m else zT (a.toNat:Int) b.toNat:=by
 simp only [Lib.compareBytes]
 unfold zT
 by_cases h:a<b
 ·have h':a.toNat<b.toNat:=UInt8.lt_iff_toNat_lt.1 h
  have hne:a≠b:=fun e=>by subst e;omega
  rw[if_pos h,if_neg hne,if_neg (by omega),if_pos (by omega)]
 ·by_cases h2:b<a
  ·have h':b.toNat<a.toNat:=UInt8.lt_iff_toNat_lt.1 h2
   have hne:a≠b:=fun e=>by subst e;omega
   rw[if_neg h,if_pos h2,if_neg hne,if_pos (by omega)]
  ·have he:a=b:=by
    rw[UInt8.lt_iff_toNat_lt] at h h2
    exact UInt8.toNat_inj.1 (by omega)
   rw[if_neg h,if_neg h2,if_pos he]
inductive okP:GV→Prop
 |mk {k n:Int} {f:Nat} {s:ByteArray} {ks:List ByteArray} {l:List GV} (h:ks.length≤l.length) (hl:∀x∈l,okP x):okP (.mk k n f s ks l)
theorem ztK {k n:Int}{f:Nat}{s:ByteArray}:okP (.mk k n f s [] []):=.mk (Nat.le_refl _) fun x hx=>by cases hx
theorem zpJ (g:GV):okP (zz g):=by
 induction g using GV.ind with
 |h kind n f s keys l IH=>
 have hl:∀x∈cleans l,okP x:=fun x hx=>by
  rw[zay] at hx
  obtain ⟨y,hy,rfl⟩:=List.mem_map.1 hx
  exact IH y hy
 simp only [zz]
 repeat' split
 all_goals first|exact ztK|skip
 ·exact .mk (by simp) hl
 ·refine .mk (by simp) fun x hx=>?_
  obtain ⟨p,hp,rfl⟩:=List.mem_map.1 hx
  exact zeM keys (cleans l) [] okP hl (by simp) .nil p hp
theorem zfh {ks ks':List ByteArray}{l l':List GV}(h:ks= []∨ks'= []):cmpPm ks l ks' l'=zT (ks.length:Int) ks'.length:=by
 rcases h with rfl|rfl
 ·unfold cmpPm;rfl
 ·cases ks<;>cases l<;>simp [cmpPm]
theorem zhj:∀{l m:List UInt8},Op.bytesLess l m=true→Lib.compareBytes l m= -1
 |_,[],h=>by simp [Op.bytesLess] at h
 | [],_::_,_=>rfl
 |a::l,b::m,h=>by
  simp only [Op.bytesLess,Bool.or_eq_true,Bool.and_eq_true,decide_eq_true_eq,beq_iff_eq] at h
  rw[zdw]
  rcases h with h|⟨rfl,h⟩
  ·have h':a.toNat<b.toNat:=UInt8.lt_iff_toNat_lt.1 h
   have hne:a≠b:=fun e=>by subst e;omega
   rw[if_neg hne];unfold zT;rw[if_neg (by omega),if_pos (by omega)]
  ·rw[if_pos rfl,zhj h]
theorem zhk:∀{l m:List UInt8},Op.bytesLess m l=true→Lib.compareBytes l m=1
 | [],_,h=>by simp [Op.bytesLess] at h
 |_::_,[],_=>rfl
 |a::l,b::m,h=>by
  simp only [Op.bytesLess,Bool.or_eq_true,Bool.and_eq_true,decide_eq_true_eq,beq_iff_eq] at h
  rw[zdw]
  rcases h with h|⟨rfl,h⟩
  ·have h':b.toNat<a.toNat:=UInt8.lt_iff_toNat_lt.1 h
   have hne:a≠b:=fun e=>by subst e;omega
   rw[if_neg hne];unfold zT;rw[if_pos (by omega)]
  ·rw[if_pos rfl,zhk h]
theorem ztL {a b:ByteArray}(h:blt a b=true):zb6 a b= -1:=by
 unfold blt at h;rw[zc0,zc0] at h;exact zhj h
theorem ztM {a b:ByteArray}(h:blt b a=true):zb6 a b=1:=by
 unfold blt at h;rw[zc0,zc0] at h;exact zhk h
theorem zpK (a:ByteArray):zb6 a a=0:=(zcz _ _).2 rfl
def zcg:List (ByteArray×GV)→List (ByteArray×GV)→Int
 |p::A,q::B=>if zb6 p.1 q.1≠0 then zb6 p.1 q.1 else if zbJ p.2 q.2≠0 then zbJ p.2 q.2 else zcg A B
 | [],[]=>0
 | [],_::_=> -1
 |_::_,[]=>1
theorem zow:∀A B:List (ByteArray×GV),cmpPm (A.map (·.1)) (A.map (·.2)) (B.map (·.1)) (B.map (·.2))=zcg A B
 | [],[]=>by simp [cmpPm,zcg,zT]
 | [],q::B=>by simp only [List.map_nil,List.map_cons];rw[zfh (.inl rfl)];simp only [zcg,zT];rw[if_neg (by first|(simp;done)|(simp;omega)),if_pos (by first|(simp;done)|(simp;omega))]
 |p::A,[]=>by simp only [List.map_nil,List.map_cons];rw[zfh (.inr rfl)];simp only [zcg,zT];rw[if_pos (by first|(simp;done)|(simp;omega))]
 |p::A,q::B=>by simp only [List.map_cons,cmpPm,zcg,zow A B]
theorem ziO {c:Tree→Tree→Int}:∀{l m:List Tree},(∀x∈l,∀y∈m,c x y=zbJ (zM x) (zM y))→zet c l m=cmpPs (fromTs l) (fromTs m)
 | [],[],_=>by simp [zet,fromTs,cmpPs]
 | [],_::_,_=>by simp [zet,fromTs,cmpPs]
 |_::_,[],_=>by simp [zet,fromTs,cmpPs]
 |x::l,y::m,h=>by
  simp only [zet,fromTs,cmpPs]
  rw[ziO (l:=l) (m:=m) fun a ha b hb=>h a (List.mem_cons_of_mem _ ha) b (List.mem_cons_of_mem _ hb),h x (List.mem_cons_self ..) y (List.mem_cons_self ..)]
def zrN (m:List (ByteArray×Tree))(V:List ByteArray)(A:List (ByteArray×GV)):Prop:=∀k∈V,(∀g,(k,g)∈A→∃x,Zg m k=some x∧(k,x)∈m∧g=zM x)∧(k∉A.map (·.1)→Zg m k=none)
theorem zhl {c:Tree→Tree→Int}{m1 m2:List (ByteArray×Tree)}(hc:∀x∈m1,∀y∈m2,c x.2 y.2=zbJ (zM x.2) (zM y.2)):
  ∀(V:List ByteArray) (A B:List (ByteArray×GV)) (i:Nat),Z8 A→Z8 B→V.Pairwise (fun a b=>blt a b=true)→(∀q,q∈V↔q∈A.map (·.1)∨q∈B.map (·.1))→i+A.length=m1.length→i+B.length=m2.length→zrN m1 V A→zrN m2 V B→zbO c m1 m2 i V=zcg A B
 | [],A,B,i,_,_,_,hV,_,_,_,_=>by
  cases A with
  |nil=>cases B with
   |nil=>simp [zbO,zcg]
   |cons q B=>have:=(hV q.1).2 (.inr (by simp));cases this
  |cons p A=>have:=(hV p.1).2 (.inl (by simp));cases this
 |k0::V,A,B,i,sA,sB,sV,hV,hA,hB,kA,kB=>by
  simp only [zbO]
  rw[List.pairwise_cons] at sV
  have h0:=(hV k0).1 (List.mem_cons_self ..)
  have one:∀r:Int,zaH c m1 m2 i k0=r→r≠0→(if zaH c m1 m2 i k0≠0 then zaH c m1 m2 i k0 else zbO c m1 m2 (i+1) V)=r:=fun r e hr=>by rw[e,if_pos hr]
  have least:∀q∈k0::V,q=k0∨blt k0 q=true:=fun q hq=>by
   rcases List.mem_cons.1 hq with h|h
   ·exact .inl h
   ·exact .inr (sV.1 q h)
  cases A with
  |nil=>cases B with
   |nil=>simp at h0
   |cons q B=>
    refine one _ ?_ (by simp [zcg])
    unfold zaH;rw[if_pos (by simpa using hA)];simp [zcg]
  |cons p A=>cases B with
   |nil=>
    refine one _ ?_ (by simp [zcg])
    unfold zaH;rw[if_neg (by simp at hA;omega),if_pos (by simpa using hB)];simp [zcg]
   |cons q B=>
    simp only [Z8,List.map_cons,List.pairwise_cons] at sA sB
    simp only [List.length_cons] at hA hB
    have hn1:¬i=m1.length:=by omega
    have hn2:¬i=m2.length:=by omega
    have hp:p.1∈k0::V:=(hV p.1).2 (.inl (by simp))
    have hq:q.1∈k0::V:=(hV q.1).2 (.inr (by simp))
    have hk0:=List.mem_cons_self (a:=k0) (l:=V)
    rcases zfd p.1 q.1 with h|h|h
    ·
     have e:k0=p.1:=by
      rcases least _ hp with e|e
      ·exact e.symm
      ·have:blt k0 q.1=true:=ZD e h
       rcases h0 with h0|h0
       ·simp only [List.map_cons,List.mem_cons] at h0
        rcases h0 with h0|h0
        ·exact h0
        ·have:=ZD (sA.1 _ h0) e;rw[zX] at this;cases this
       ·simp only [List.map_cons,List.mem_cons] at h0
        rcases h0 with h0|h0
        ·rw[h0,zX] at this;cases this
        ·have:=ZD (sB.1 _ h0) this;rw[zX] at this;cases this
     subst e
     obtain ⟨x,hx,_,_⟩:=(kA _ hk0).1 p.2 (by simp)
     have hy:Zg m2 p.1=none:=(kB _ hk0).2 fun hm=>by
      simp only [List.map_cons,List.mem_cons] at hm
      rcases hm with hm|hm
      ·rw[hm,zX] at h;cases h
      ·have:=ZD (sB.1 _ hm) h;rw[zX] at this;cases this
     have hr:zcg (p::A) (q::B)= -1:=by simp [zcg,ztL h]
     rw[hr]
     refine one _ ?_ (by decide)
     unfold zaH;rw[if_neg hn1,if_neg hn2,hx,hy]
    ·
     have e:k0=p.1:=by
      rcases least _ hp with e|e
      ·exact e.symm
      ·rcases h0 with h0|h0
       ·simp only [List.map_cons,List.mem_cons] at h0
        rcases h0 with h0|h0
        ·exact h0
        ·have:=ZD (sA.1 _ h0) e;rw[zX] at this;cases this
       ·simp only [List.map_cons,List.mem_cons] at h0
        rcases h0 with h0|h0
        ·rw[h0,h]
        ·have:=ZD (sB.1 _ h0) (h▸e);rw[zX] at this;cases this
     subst e
     obtain ⟨x,hx,hxm,ex⟩:=(kA _ hk0).1 p.2 (by simp)
     obtain ⟨y,hy,hym,ey⟩:=(kB _ hk0).1 q.2 (by rw[h];simp)
     have ho:zaH c m1 m2 i p.1=zbJ p.2 q.2:=by
      unfold zaH;rw[if_neg hn1,if_neg hn2,hx,hy,ex,ey]
      exact hc _ hxm _ hym
     rw[ho]
     have hr:zcg (p::A) (q::B)=if zbJ p.2 q.2≠0 then zbJ p.2 q.2 else zcg A B:=by simp only [zcg,←h,zpK];simp
     rw[hr]
     by_cases hz:zbJ p.2 q.2=0
     ·rw[if_neg (by simpa using hz),if_neg (by simpa using hz)]
      have hgt:∀k∈V,k≠p.1:=fun k hk e=>by have:=sV.1 k hk;rw[e,zX] at this;cases this
      refine zhl hc V A B (i+1) sA.2 sB.2 sV.2 (fun r=>?_) (by omega) (by omega) (fun k hk=>?_) fun k hk=>?_
      ·constructor
       ·intro hr
        have:=(hV r).1 (List.mem_cons_of_mem _ hr)
        simp only [List.map_cons,List.mem_cons] at this
        rcases this with (h1|h1)|(h1|h1)
        ·exact absurd h1 (hgt r hr)
        ·exact .inl h1
        ·exact absurd (h1.trans h.symm) (hgt r hr)
        ·exact .inr h1
       ·intro hr
        have:r∈p.1::V:=(hV r).2 (by rcases hr with h1|h1;exact .inl (by simp [h1]);exact .inr (by simp [h1]))
        rcases List.mem_cons.1 this with e|h1
        ·rcases hr with h2|h2
         ·have:=sA.1 r h2;rw[e,zX] at this;cases this
         ·have:=sB.1 r h2;rw[e,h,zX] at this;cases this
        ·exact h1
      ·obtain ⟨a1,a2⟩:=kA k (List.mem_cons_of_mem _ hk)
       exact ⟨fun g hg=>a1 g (List.mem_cons_of_mem _ hg),fun hn=>a2 fun hm=>by
        simp only [List.map_cons,List.mem_cons] at hm
        rcases hm with hm|hm
        ·exact hgt k hk hm
        ·exact hn hm⟩
      ·obtain ⟨a1,a2⟩:=kB k (List.mem_cons_of_mem _ hk)
       exact ⟨fun g hg=>a1 g (List.mem_cons_of_mem _ hg),fun hn=>a2 fun hm=>by
        simp only [List.map_cons,List.mem_cons] at hm
        rcases hm with hm|hm
        ·exact hgt k hk (hm.trans h.symm)
        ·exact hn hm⟩
     ·rw[if_pos hz,if_pos hz]
    ·
     have e:k0=q.1:=by
      rcases least _ hq with e|e
      ·exact e.symm
      ·have:blt k0 p.1=true:=ZD e h
       rcases h0 with h0|h0
       ·simp only [List.map_cons,List.mem_cons] at h0
        rcases h0 with h0|h0
        ·rw[h0,zX] at this;cases this
        ·have:=ZD (sA.1 _ h0) this;rw[zX] at this;cases this
       ·simp only [List.map_cons,List.mem_cons] at h0
        rcases h0 with h0|h0
        ·exact h0
        ·have:=ZD (sB.1 _ h0) e;rw[zX] at this;cases this
     subst e
     have hx:Zg m1 q.1=none:=(kA _ hk0).2 fun hm=>by
      simp only [List.map_cons,List.mem_cons] at hm
      rcases hm with hm|hm
      ·rw[hm,zX] at h;cases h
      ·have:=ZD (sA.1 _ hm) h;rw[zX] at this;cases this
     have hr:zcg (p::A) (q::B)=1:=by simp [zcg,ztM h]
     rw[hr]
     refine one _ ?_ (by decide)
     unfold zaH;rw[if_neg hn1,if_neg hn2,hx]
theorem ziP {m:List (ByteArray×Tree)}(hn:(m.map (·.1)).Nodup)(V:List ByteArray):zrN m V (fromMs m):=fun k _=>
 ⟨fun g hg=>by
  obtain ⟨t,ht,e⟩:=zdd hg
  exact ⟨t,zbw hn ht,ht,e⟩,fun hk=>zj6 fun h=>hk ((zab k m).2 h)⟩
theorem zfP {m:List (ByteArray×Tree)}(hn:(m.map (·.1)).Nodup):(fromMs m).length=m.length:=by
 have:=zcq (zcf (ZF m)) hn fun q=>zab q m
 rwa[List.length_map,List.length_map] at this
theorem zgO:∀(n:Nat) (x y:Tree),dep x≤n→z8 x→z8 y→ziB n x y=zbJ (zM x) (zM y)
 |0,x,y,h,_,_=>by have:=zgg x;omega
 |n+1,x,y,h,hx,hy=>by
  unfold ziB
  cases x<;>cases y<;>simp only [ztF,zM,zcI,zbJ]<;>(try (simp [rkV,zT,asF,zb6];done))
  case bool.bool a b=>cases a<;>cases b<;>simp [rkV,zT,ztD]
  case list.list l m=>
   simp only [z8] at hx hy
   simp only [dep] at h
   rw[ziO fun a ha b hb=>zgO n a b (by have:=zdJ ha;omega) (hx.2.mem a ha) (hy.2.mem b hb)]
   simp [rkV,zT]
  case map.map l m=>
   simp only [z8] at hx hy
   simp only [dep] at h
   have hu:=zmq l m (zgh l m)
   rw[zhl (fun a ha b hb=>zgO n a.2 b.2 (by have:=zdK ha;omega) (hx.2.2.mem a ha) (hy.2.2.mem b hb)) (zdm l m) (fromMs l) (fromMs m) 0 (ZF l) (ZF m) hu.1
    (fun q=>by rw[hu.2 q,zab,zab]) (by rw[zfP hx.2.1];omega) (by rw[zfP hy.2.1];omega) (ziP hx.2.1 _) (ziP hy.2.1 _),←zow]
   simp [rkV,zT]
theorem zgP (a b:GV)(ha:z8 (zp a))(hb:z8 (zp b)):zmr (zp a) (zp b)=zbJ (zz a) (zz b):=by
 unfold zmr
 rw[zgO _ _ _ (Nat.le_refl _) ha hb,zb4,zb4]
abbrev ZT (p:List EV):D:=.sl 29 (p.map evD)
abbrev zcs (p:List LE):D:=.sl 101 (p.map leD)
theorem ztN {p:List EV}(h:okD prog (ZT p)):p.length*168≤140737488351232∧∀e∈p,e.keys.length*16≤140737488351232∧(∀k∈e.keys,k.size≤140737488351232)∧e.l.length*88≤140737488351232∧FitsE e:=by
 obtain ⟨h1,h2⟩:=zeE h
 simp at h1
 exact ⟨by omega,fun e he=>zwG (zoj h (List.mem_map.2 ⟨e,he,rfl⟩))⟩
structure EVs (e:EV):Prop where
 hk:e.keys.length*16≤140737488351232
 hl:e.l.length*88≤140737488351232
theorem zrO (e:EV)(hk:e.keys.length*16≤140737488351232)(hl:e.l.length*88≤140737488351232):ACalls prog 70 [evA e] (fun r=>r=leA (z9 e)):=by
 obtain ⟨k,s,keys,l,⟨a,b,c,d,p,f⟩,n⟩:=e
 rw[zeO]
 exact zrK _ _ _ _ _ _ _ _ _ _ _ hk hl
theorem zrP (p:List EV)(hl:p.length*168≤140737488351232)(hp:∀e∈p,EVs e):ACalls prog 104 [.c (.d (ZT p))] (fun r=>r= .c (.d (zcs (p.map z9)))):=by
 refine zg [] func104 (by kernel_rfl) rfl ntmps104 results104 (Nat.le_of_ble_eq_true (by kernel_rfl)) ?_;intro hok w0 S0
 clear hok
 have b1:p.length≤9223372036854775807:=by omega
 (repeat' (first|(with_reducible first|refine zl (fun _=>?_) (fun _=>?_)|refine zk (fun _=>?_) (fun _=>?_)|refine zm zd (by kernel_rfl) ?_|exact zc rfl)|(simp -dsimp [b1])));(all_goals try with_reducible refine zc ?_)
 refine zJ (fun i:Nat=>⟨[(3,.c (.gs 6 i)),(7,.c (.d (ZT p))),(8,aI p.length),(9,aI i)],[(6,.arr i 101 ((p.map (leD∘z9)).take i))]⟩) (fun i=>i≤p.length) (fun i=>p.length - i) 0 ?_ (Nat.zero_le _) ?_
 ·exact Weak.same (by simp -dsimp) (by simp -dsimp) (by first|rfl|(simp [zj,Av.ids,Ow.ids,Cl.ids,Go.Smd.keys];done))
 ·rintro i hi K hK
  by_cases hlt:i<p.length
  ·have hw:IntKind.wrap .i64 ((i:Int)+1)=((i+1:Nat):Int):=by rw[zy]<;>omega
   have hb:(min i p.length+1)*32≤140737488351232:=by omega
   have h1:(p.map (leD∘z9)).take (i+1)=(p.map (leD∘z9)).take i++ [leD (z9 p[i])]:=by
    rw[List.take_succ_eq_append_getElem (by simpa using hlt)];simp
   have he:=hp _ (List.getElem_mem hlt)
   have hc:=zrO p[i] he.hk he.hl
   (repeat' (first|(with_reducible first|refine zl (fun _=>?_) (fun _=>?_)|refine zk (fun _=>?_) (fun _=>?_)|refine zt (hc) (by first|rfl|(simp -dsimp [b1,hlt,hw,hb,zf];done)) ?_|refine zm zd (by kernel_rfl) ?_|exact zc rfl)|(simp -dsimp [b1,hlt,hw,hb,zf])));(all_goals try with_reducible refine zc ?_)
   refine hK _ (i+1) ?_ (by omega) (by omega)
   rw[h1]
   exact Weak.same (by simp -dsimp) (by simp -dsimp) (by first|rfl|(simp [zj,Av.ids,Ow.ids,Cl.ids,Go.Smd.keys];done))
  ·(repeat' (first|(with_reducible first|refine zl (fun _=>?_) (fun _=>?_)|refine zk (fun _=>?_) (fun _=>?_)|refine zm zd (by kernel_rfl) ?_|exact zc rfl)|(simp -dsimp [hlt])));(all_goals try with_reducible refine zc ?_)
   rw[List.take_of_length_le (by simp;omega)]
   show _=Av.c (.d (.sl _ ((p.map z9).map leD)))
   rw[List.map_map]
abbrev ZY (L:List (List EV)):D:=.sl 22 (L.map fun p=>[ZT p])
def zF {α:Type}(c:α→α→Int):List α→List α→Int
 |x::l,y::m=>if c x y≠0 then c x y else zF c l m
 | [],[]=>0
 | [],_::_=> -1
 |_::_,[]=>1
theorem zfQ {α:Type}{c:α→α→Int}{l m:List α}(h:l= []∨m= []):zF c l m=zT (l.length:Int) m.length:=by
 cases l with
 |nil=>cases m with
  |nil=>simp [zF,zT]
  |cons y m=>simp only [zF,zT];rw[if_neg (by first|(simp;done)|(simp;omega)),if_pos (by first|(simp;done)|(simp;omega))]
 |cons x l=>cases m with
  |nil=>simp only [zF,zT];rw[if_pos (by first|(simp;done)|(simp;omega))]
  |cons y m=>simp at h
theorem zpL {α:Type}{c:α→α→Int}{l m:List α}{i:Nat}(h1:i<l.length)(h2:i<m.length):zF c (l.drop i) (m.drop i)=if c l[i] m[i]≠0 then c l[i] m[i] else zF c (l.drop (i+1)) (m.drop (i+1)):=by
 rw[List.drop_eq_getElem_cons h1,List.drop_eq_getElem_cons h2];simp only [zF]
theorem zhm {α:Type}{c:α→α→Int}{l m:List α}{i:Nat}(hi:i≤l.length)(hj:i≤m.length)(h:¬(i<l.length∧i<m.length)):zF c (l.drop i) (m.drop i)=zT (l.length:Int) m.length:=by
 rw[zfQ (by
  by_cases h1:i<l.length
  ·exact .inr (List.drop_eq_nil_of_le (by omega))
  ·exact .inl (List.drop_eq_nil_of_le (by omega))),List.length_drop,List.length_drop,←zrM i hi hj]
theorem ziQ {α β:Type}{c:α→α→Int}{d:β→β→Int}{f:α→β}:∀{l m:List α},(∀x∈l,∀y∈m,d (f x) (f y)=c x y)→zF d (l.map f) (m.map f)=zF c l m
 | [],[],_=>rfl
 | [],_::_,_=>rfl
 |_::_,[],_=>rfl
 |x::l,y::m,h=>by
  simp only [List.map_cons,zF]
  rw[ziQ (l:=l) (m:=m) fun a ha b hb=>h a (List.mem_cons_of_mem _ ha) b (List.mem_cons_of_mem _ hb),h x (List.mem_cons_self ..) y (List.mem_cons_self ..)]
noncomputable def zeT (p q:ByteArray×Tree):Int:=if zb6 p.1 q.1≠0 then zb6 p.1 q.1 else zmr p.2 q.2
theorem zee (a b:ByteArray):ACalls prog 198 [aS a,aS b] (fun r=>r=aI (zb6 a b)):=zgc a b
theorem zer (l m:Fds)(hl:∀p∈l,z8 p.2)(hm:∀p∈m,z8 p.2):
  ACalls prog 199 [.c (.d (zfm l)),.c (.d (zfm m))] (fun r=>r=aI (zF zeT l m)):=by
 refine zg [(8,([10],[(0,[]),(1,[]),(2,[]),(3,[]),(4,[]),(5,[]),(6,[]),(7,[]),(8,[]),(9,[]),(10,[]),(11,[])])),(11,([10],[(0,[]),(1,[]),(2,[]),(3,[]),(4,[]),(5,[]),(6,[]),(7,[]),(8,[]),(9,[]),(10,[]),(11,[])]))] func199 (by kernel_rfl) rfl ntmps199 results199 (Nat.le_of_ble_eq_true (by kernel_rfl)) ?_;intro hok w0 S0
 have a1:l.length*32≤140737488351232:=by have:=(zeE (hok (.c (.d (zfm l))) (by simp))).1;simpa using this
 have a2:m.length*32≤140737488351232:=by have:=(zeE (hok (.c (.d (zfm m))) (by simp))).1;simpa using this
 clear hok
 have b1:l.length≤9223372036854775807:=by omega
 have b2:m.length≤9223372036854775807:=by omega
 (repeat' (first|(with_reducible first|refine zl (fun _=>?_) (fun _=>?_)|refine zk (fun _=>?_) (fun _=>?_)|refine zm zd (by kernel_rfl) ?_|exact zc rfl)|(simp -dsimp)));(all_goals try with_reducible refine zc ?_)
 refine zJ (fun i:Nat=>⟨[(0,.c (.d (zfm l))),(1,.c (.d (zfm m))),(5,aI i)],[]⟩) (fun i=>i≤l.length∧i≤m.length∧zF zeT l m=zF zeT (l.drop i) (m.drop i)) (fun i=>l.length - i) 0 ?_ ⟨Nat.zero_le _,Nat.zero_le _,rfl⟩ ?_
 ·exact Weak.same (by simp -dsimp) (by simp -dsimp) (by first|rfl|(simp [zj,Av.ids,Ow.ids,Cl.ids,Go.Smd.keys];done))
 ·rintro i ⟨hi,hj,heq⟩ K hK
  have hw:IntKind.wrap .i64 ((i:Int)+1)=((i+1:Nat):Int):=by rw[zy]<;>omega
  by_cases h1:i<l.length
  ·have h3:¬(l.length:Int)≤i:=by omega
   by_cases h2:i<m.length
   ·have h4:¬(m.length:Int)≤i:=by omega
    have hc:=heq.trans (zpL h1 h2)
    have hs:=zee l[i].1 m[i].1
    have hv:=zfM l[i].2 m[i].2 (hl _ (List.getElem_mem h1)) (hm _ (List.getElem_mem h2))
    by_cases hy:zb6 l[i].1 m[i].1=0
    ·have hf:zeT l[i] m[i]=zmr l[i].2 m[i].2:=by unfold zeT;rw[if_neg (by simpa using hy)]
     rw[hf] at hc
     rw[hy] at hs
     by_cases hz:zmr l[i].2 m[i].2=0
     ·rw[if_neg (by simpa using hz)] at hc
      rw[hz] at hv
      (repeat' (first|(with_reducible first|refine zl (fun _=>?_) (fun _=>?_)|refine zk (fun _=>?_) (fun _=>?_)|refine zt (hs) (by first|rfl|(simp -dsimp [hw,b1,b2,h1,h2,h3,h4,zaN];done)) ?_|(refine Zu (hs) rfl ?_ ?_ ?_;iterate 2 exact by first|rfl|(simp -dsimp [hw,b1,b2,h1,h2,h3,h4,zaN];done))|refine zt (hv) (by first|rfl|(simp -dsimp [hw,b1,b2,h1,h2,h3,h4,zaN];done)) ?_|(refine Zu (hv) rfl ?_ ?_ ?_;iterate 2 exact by first|rfl|(simp -dsimp [hw,b1,b2,h1,h2,h3,h4,zaN];done))|refine zm zd (by kernel_rfl) ?_|exact zc rfl)|(simp -dsimp [hw,b1,b2,h1,h2,h3,h4,zaN])));(all_goals try with_reducible refine zc ?_)
      refine hK _ (i+1) ?_ ⟨by omega,by omega,hc⟩ (by omega)
      exact Weak.same (by simp -dsimp) (by simp -dsimp) (by first|rfl|(simp [zj,Av.ids,Ow.ids,Cl.ids,Go.Smd.keys];done))
     ·rw[if_pos hz] at hc
      (repeat' (first|(with_reducible first|refine zl (fun _=>?_) (fun _=>?_)|refine zk (fun _=>?_) (fun _=>?_)|refine zt (hs) (by first|rfl|(simp -dsimp [hw,b1,b2,h1,h2,h3,h4,hz,zaN];done)) ?_|(refine Zu (hs) rfl ?_ ?_ ?_;iterate 2 exact by first|rfl|(simp -dsimp [hw,b1,b2,h1,h2,h3,h4,hz,zaN];done))|refine zt (hv) (by first|rfl|(simp -dsimp [hw,b1,b2,h1,h2,h3,h4,hz,zaN];done)) ?_|(refine Zu (hv) rfl ?_ ?_ ?_;iterate 2 exact by first|rfl|(simp -dsimp [hw,b1,b2,h1,h2,h3,h4,hz,zaN];done))|refine zm zd (by kernel_rfl) ?_|exact zc rfl)|(simp -dsimp [hw,b1,b2,h1,h2,h3,h4,hz,zaN])));(all_goals try with_reducible refine zc ?_)
      rw[hc]
    ·have hf:zeT l[i] m[i]=zb6 l[i].1 m[i].1:=by unfold zeT;rw[if_pos hy]
     rw[hf,if_pos hy] at hc
     (repeat' (first|(with_reducible first|refine zl (fun _=>?_) (fun _=>?_)|refine zk (fun _=>?_) (fun _=>?_)|refine zt (hs) (by first|rfl|(simp -dsimp [hw,b1,b2,h1,h2,h3,h4,hy,zaN];done)) ?_|(refine Zu (hs) rfl ?_ ?_ ?_;iterate 2 exact by first|rfl|(simp -dsimp [hw,b1,b2,h1,h2,h3,h4,hy,zaN];done))|refine zm zd (by kernel_rfl) ?_|exact zc rfl)|(simp -dsimp [hw,b1,b2,h1,h2,h3,h4,hy,zaN])));(all_goals try with_reducible refine zc ?_)
     rw[hc]
   ·have h4:(m.length:Int)≤i:=by omega
    have hc:=heq.trans (zhm hi hj fun h=>h2 h.2)
    (repeat' (first|(with_reducible first|refine zl (fun _=>?_) (fun _=>?_)|refine zk (fun _=>?_) (fun _=>?_)|refine zm zd (by kernel_rfl) ?_|exact zc rfl)|(simp -dsimp [hw,b1,b2,h1,h2,h3,h4])));(all_goals try with_reducible refine zc ?_)
    rw[hc];unfold zT;rw[if_pos (by omega)]
  ·have h3:(l.length:Int)≤i:=by omega
   have hc:=heq.trans (zhm hi hj fun h=>h1 h.1)
   by_cases h2:i<m.length
   ·have h4:¬(m.length:Int)≤i:=by omega
    (repeat' (first|(with_reducible first|refine zl (fun _=>?_) (fun _=>?_)|refine zk (fun _=>?_) (fun _=>?_)|refine zm zd (by kernel_rfl) ?_|exact zc rfl)|(simp -dsimp [hw,b1,b2,h1,h2,h3,h4])));(all_goals try with_reducible refine zc ?_)
    rw[hc];unfold zT;rw[if_neg (by omega),if_pos (by omega)]
   ·have h4:(m.length:Int)≤i:=by omega
    (repeat' (first|(with_reducible first|refine zl (fun _=>?_) (fun _=>?_)|refine zk (fun _=>?_) (fun _=>?_)|refine zm zd (by kernel_rfl) ?_|exact zc rfl)|(simp -dsimp [hw,b1,b2,h1,h2,h3,h4])));(all_goals try with_reducible refine zc ?_)
    rw[hc];unfold zT;rw[if_neg (by omega),if_neg (by omega)]
noncomputable def zat:LE→LE→Int
 | .name s,.name s'=>zb6 s s'
 | .name _,_=> -1
 |_,.name _=>1
 | .key l,.key m=>zF zeT l m
 | .key _,_=> -1
 |_,.key _=>1
 | .val t,.val u=>zmr t u
 | .val _,_=> -1
 |_,.val _=>1
 | .idx n,.idx m=>zT n m
theorem zfq (p q:LE)(hp:zas p)(hq:zas q):ACalls prog 156 [leA p,leA q] (fun r=>r=aI (zat p q)):=by
 cases p<;>cases q
 all_goals
  simp only [zas] at hp hq
  refine zg [(4,([8],[(0,[]),(1,[]),(2,[]),(3,[]),(4,[]),(5,[]),(6,[]),(7,[]),(8,[]),(9,[])])),(10,([8],[(0,[]),(1,[]),(2,[]),(3,[]),(4,[]),(5,[]),(6,[]),(7,[]),(8,[]),(9,[])])),(16,([8],[(0,[]),(1,[]),(2,[]),(3,[]),(4,[]),(5,[]),(6,[]),(7,[]),(8,[]),(9,[])])),(22,([],[(0,[]),(1,[]),(2,[]),(3,[]),(4,[]),(5,[]),(6,[]),(7,[]),(8,[])])),(24,([],[(0,[]),(1,[]),(2,[]),(3,[]),(4,[]),(5,[]),(6,[]),(7,[]),(8,[])]))] func156 (by kernel_rfl) rfl ntmps156 results156 (Nat.le_of_ble_eq_true (by kernel_rfl)) ?_;intro hok w0 S0
  clear hok
  (repeat' (first|(with_reducible first|refine zl (fun _=>?_) (fun _=>?_)|refine zk (fun _=>?_) (fun _=>?_)|refine zt (zer _ _ hp hq) (by first|rfl|(simp -dsimp;done)) ?_|refine Zu (zer _ _ hp hq) rfl (by first|rfl|(simp -dsimp;done)) (by first|rfl|(simp -dsimp;done)) ?_|refine zt (zfM _ _ hp hq) (by first|rfl|(simp -dsimp;done)) ?_|refine Zu (zfM _ _ hp hq) rfl (by first|rfl|(simp -dsimp;done)) (by first|rfl|(simp -dsimp;done)) ?_|refine zt (zee _ _) (by first|rfl|(simp -dsimp;done)) ?_|refine Zu (zee _ _) rfl (by first|rfl|(simp -dsimp;done)) (by first|rfl|(simp -dsimp;done)) ?_|refine zm zd (by kernel_rfl) ?_|exact zc rfl)|(simp -dsimp)));(all_goals try with_reducible refine zc ?_)
 all_goals (try (simp only [zat];done))
 all_goals (simp only [zat,zT];repeat' split)<;>(try rfl)<;>omega
end Go.Smd
end
section
namespace Go.Smd
open Go.RowKit
section
variable {P:Program} {N:Nat} {w0:World} {S0:Env} {ops:Array Oper}
theorem ZZ {full base:List (Nat×Av)}{own:List (Nat×Ow)}{o:Oper}{d:Tmp}(hd:o.dst=some d)(hdk:Zk N o=true)(hv:zN P ⟨full++base,own⟩ o=some (zi full base d)):Eff P N full base o own own:=fun σ e0 e1 e2 K hK=>by
 refine ⟨hdk,?_⟩
 have:zN P σ o=some (zi full base d):=by rw[←hv];exact zaE e1 e0
 rw[this]
 refine hK _ (by rw[ZO];exact e0) fun t=>?_
 rw[Zp,hd]
 by_cases e:some d=some t
 ·rw[if_pos e,if_pos e];cases e;rfl
 ·rw[if_neg e,if_neg e]
end
end Go.Smd
end
