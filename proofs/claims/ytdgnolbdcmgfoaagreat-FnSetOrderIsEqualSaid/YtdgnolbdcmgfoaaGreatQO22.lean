/- Part 22 of the proof: Ft Eq. -/
import Derived.Test.YtdgnolbdcmgfoaaGreatQO14
import Derived.Test.YtdgnolbdcmgfoaaGreatQO20
import Derived.Test.YtdgnolbdcmgfoaaGreatQO21
set_option linter.unusedVariables false
set_option linter.unusedSimpArgs false
set_option maxRecDepth 100000
set_option maxHeartbeats 8000000
section
namespace Go.Smd
open Go.RowKit Go.Proofs Go.Proofs.Tryz
theorem Tree.ind {P:Tree→Prop}(hn:P .nil)(hb:∀b,P (.bool b))(hi:∀n,P (.int n))(hf:∀f,P (.float f))(hs:∀s,P (.str s))(hl:∀l,(∀x∈l,P x)→P (.list l))(hm:∀m,(∀p∈m,P p.2)→P (.map m)):∀t,P t
 | .nil=>hn
 | .bool b=>hb b
 | .int n=>hi n
 | .float f=>hf f
 | .str s=>hs s
 | .list l=>hl l fun x _hx=>Tree.ind hn hb hi hf hs hl hm x
 | .map m=>hm m fun p _hp=>Tree.ind hn hb hi hf hs hl hm p.2
termination_by t=>SizeOf.sizeOf t
decreasing_by
 ·have:=List.sizeOf_lt_of_mem _hx
  simp;omega
 ·have h1:=List.sizeOf_lt_of_mem _hp
  have h2:SizeOf.sizeOf p.2<SizeOf.sizeOf p:=by cases p;simp;omega
  simp;omega
mutual
def zM:Tree→GV
 | .nil=>.mk 0 0 0 ⟨#[]⟩ [] []
 | .bool b=>.mk 1 (if b then 1 else 0) 0 ⟨#[]⟩ [] []
 | .int n=>.mk 2 n 0 ⟨#[]⟩ [] []
 | .float f=>.mk 3 0 f ⟨#[]⟩ [] []
 | .str s=>.mk 4 0 0 s [] []
 | .list l=>.mk 5 0 0 ⟨#[]⟩ [] (fromTs l)
 | .map m=>zcI (fromMs m)
def fromTs:List Tree→List GV
 | []=>[]
 |x::l=>zM x::fromTs l
def fromMs:List (ByteArray×Tree)→List (ByteArray×GV)
 | []=>[]
 |p::m=>zax p.1 (zM p.2) (fromMs m)
end
theorem zc1:∀l,fromTs l=l.map zM
 | []=>by simp [fromTs]
 |x::l=>by simp [fromTs,zc1 l]
theorem ZF:∀m,Z8 (fromMs m)
 | []=>by simp [fromMs,Z8]
 |p::m=>by simp only [fromMs];exact Zt (ZF m)
theorem zdd {k:ByteArray}{v:GV}:∀{m:List (ByteArray×Tree)},(k,v)∈fromMs m→∃t,(k,t)∈m∧v=zM t
 | [],h=>by simp [fromMs] at h
 |p::m,h=>by
  simp only [fromMs] at h
  rcases zij h with h|h
  ·cases h;exact ⟨p.2,List.mem_cons_self ..,rfl⟩
  ·obtain ⟨t,h1,h2⟩:=zdd h
   exact ⟨t,List.mem_cons_of_mem _ h1,h2⟩
theorem zab (q:ByteArray):∀m:List (ByteArray×Tree),q∈(fromMs m).map (·.1)↔q∈m.map (·.1)
 | []=>by simp [fromMs]
 |p::m=>by
  simp only [fromMs]
  have h:∀(k:ByteArray) (v:GV) (l:List (ByteArray×GV)),q∈(zax k v l).map (·.1)↔q=k∨q∈l.map (·.1):=fun k v l=>by
   induction l with
   |nil=>simp [zax]
   |cons y l ih=>
    simp only [zax]
    split
    ·simp only [List.map_cons,List.mem_cons,ih]
     constructor<;>rintro (h|h|h)<;>simp [h]
    ·split
     ·next h=>simp [h]
     ·simp
  rw[h,zab q m];simp
theorem Z3 {k:ByteArray}{v:GV}{p:ByteArray×GV}:∀{m:List (ByteArray×GV)},Z8 m→(p∈zax k v m↔p=(k,v)∨(p∈m∧p.1≠k))
 | [],_=>by simp [zax]
 |q::m,hs=>by
  have hs':=hs
  simp only [Z8,List.map_cons,List.pairwise_cons] at hs
  have hq:∀x∈m,blt q.1 x.1=true:=fun x hx=>hs.1 x.1 (List.mem_map_of_mem hx)
  simp only [zax]
  split
  ·next hb=>
   rw[List.mem_cons,Z3 hs.2,List.mem_cons]
   constructor
   ·rintro (h|h|h)
    ·subst h;exact .inr ⟨.inl rfl,zni hb⟩
    ·exact .inl h
    ·exact .inr ⟨.inr h.1,h.2⟩
   ·rintro (h|⟨h|h,h2⟩)
    ·exact .inr (.inl h)
    ·exact .inl h
    ·exact .inr (.inr ⟨h,h2⟩)
  ·next hb=>
   split
   ·next he=>
    rw[List.mem_cons,List.mem_cons]
    constructor
    ·rintro (h|h)
     ·exact .inl h
     ·exact .inr ⟨.inr h,fun e=>zni (hq p h) (he.trans e.symm)⟩
    ·rintro (h|⟨h|h,h2⟩)
     ·exact .inl h
     ·subst h;exact absurd he h2
     ·exact .inr h
   ·next he=>
    have hk:blt k q.1=true:=by
     rcases zfd q.1 k with h'|h'|h'
     ·exact absurd h' hb
     ·exact absurd h' he
     ·exact h'
    rw[List.mem_cons]
    constructor
    ·rintro (h|h)
     ·exact .inl h
     ·refine .inr ⟨h,fun e=>?_⟩
      rcases List.mem_cons.1 h with rfl|h
      ·exact he e
      ·have:=ZD hk (hq p h);rw[e,zX] at this;cases this
    ·rintro (h|⟨h,_⟩)
     ·exact .inl h
     ·exact .inr h
theorem zfN:∀{a b:List (ByteArray×GV)},Z8 a→Z8 b→(∀p,p∈a↔p∈b)→a=b
 | [],[],_,_,_=>rfl
 | [],y::b,_,_,h=>by have:=(h y).2 (List.mem_cons_self ..);cases this
 |x::a,[],_,_,h=>by have:=(h x).1 (List.mem_cons_self ..);cases this
 |x::a,y::b,ha,hb,h=>by
  simp only [Z8,List.map_cons,List.pairwise_cons] at ha hb
  have hx1:∀p∈a,blt x.1 p.1=true:=fun p hp=>ha.1 p.1 (List.mem_map_of_mem hp)
  have hy1:∀p∈b,blt y.1 p.1=true:=fun p hp=>hb.1 p.1 (List.mem_map_of_mem hp)
  have hxy:x=y:=by
   rcases List.mem_cons.1 ((h x).1 (List.mem_cons_self ..)) with e|hx
   ·exact e
   ·rcases List.mem_cons.1 ((h y).2 (List.mem_cons_self ..)) with e|hy
    ·exact e.symm
    ·have h1:=hy1 x hx
     have h2:=hx1 y hy
     rw[zjZ h1] at h2;cases h2
  subst hxy
  rw[zfN ha.2 hb.2 fun p=>?_]
  constructor
  ·intro hp
   rcases List.mem_cons.1 ((h p).1 (List.mem_cons_of_mem _ hp)) with rfl|h'
   ·have:=hx1 p hp;rw[zX] at this;cases this
   ·exact h'
  ·intro hp
   rcases List.mem_cons.1 ((h p).2 (List.mem_cons_of_mem _ hp)) with rfl|h'
   ·have:=hy1 p hp;rw[zX] at this;cases this
   ·exact h'
theorem znG {k:ByteArray}{a b:GV}{m:List (ByteArray×GV)}(hs:Z8 m):zax k a (zax k b m)=zax k a m:=by
 refine zfN (Zt (Zt hs)) (Zt hs) fun p=>?_
 rw[Z3 (Zt hs),Z3 hs,Z3 hs]
 constructor
 ·rintro (h|⟨h|h,h2⟩)
  ·exact .inl h
  ·subst h;exact absurd rfl h2
  ·exact .inr h
 ·rintro (h|h)
  ·exact .inl h
  ·exact .inr ⟨.inr h,h.2⟩
theorem zpG {k q:ByteArray}(hkq:k≠q){a b:GV}{m:List (ByteArray×GV)}(hs:Z8 m):zax k a (zax q b m)=zax q b (zax k a m):=by
 refine zfN (Zt (Zt hs)) (Zt (Zt hs)) fun p=>?_
 rw[Z3 (Zt hs),Z3 hs,Z3 (Zt hs),Z3 hs]
 constructor
 ·rintro (h|⟨h|h,h2⟩)
  ·exact .inr ⟨.inl h,by rw[h];exact hkq⟩
  ·exact .inl h
  ·exact .inr ⟨.inr ⟨h.1,h2⟩,h.2⟩
 ·rintro (h|⟨h|h,h2⟩)
  ·exact .inr ⟨.inl h,by rw[h];exact hkq.symm⟩
  ·exact .inl h
  ·exact .inr ⟨.inr ⟨h.1,h2⟩,h.2⟩
theorem ziI (k:ByteArray)(t:Tree):∀m:zaK,fromMs (ins k t m)=zax k (zM t) (fromMs m)
 | []=>by simp [ins,fromMs]
 |p::m=>by
  simp only [ins]
  split
  ·next h=>simp only [fromMs,h];exact (znG (ZF m)).symm
  ·next h=>
   simp only [fromMs]
   rw[ziI k t m,zpG h (ZF m)]
theorem ziJ:∀(ks:List ByteArray) (l:List GV) (m:zaK),(∀x∈l,zM (zp x)=zz x)→fromMs (ZE ks (treesOf l) m)=Zi ks (cleans l) (fromMs m)
 | [],l,m,_=>by cases l<;>simp [ZE,treesOf,cleans,Zi]
 |k::ks,[],m,_=>by simp [ZE,treesOf,cleans,Zi]
 |k::ks,x::l,m,h=>by
  simp only [treesOf,cleans,ZE,Zi]
  rw[ziJ ks l _ fun y hy=>h y (List.mem_cons_of_mem _ hy),ziI,h x (List.mem_cons_self ..)]
theorem zb4 (v:GV):zM (zp v)=zz v:=by
 induction v using GV.ind with
 |h kind n f s keys l IH=>
 simp only [zp,zz]
 repeat' split
 all_goals (try simp only [zM])
 all_goals (try rfl)
 ·next h=>subst h;simp
 ·next h=>simp [h]
 ·have:fromTs (treesOf l)=cleans l:=by
   rw[zc1,ZJ,zay,List.map_map]
   exact List.map_congr_left fun x hx=>IH x hx
  rw[this]
 ·rw[ziJ keys l [] IH];rfl
theorem zhf:∀{fs m:List (ByteArray×GV)},Z8 fs→(∀p∈fs,zz p.2=p.2)→Z8 m→(∀p∈m,∀q∈fs,blt p.1 q.1=true)→Zi (fs.map (·.1)) (cleans (fs.map (·.2))) m=m++fs
 | [],m,_,_,_,_=>by simp [Zi]
 |q::fs,m,hs,hc,hm,hlt=>by
  simp only [List.map_cons,cleans,Zi]
  have hq:zz q.2=q.2:=hc q (List.mem_cons_self ..)
  rw[hq]
  have hs':=hs
  simp only [Z8,List.map_cons,List.pairwise_cons] at hs
  have e:zax q.1 q.2 m=m++ [q]:=by
   have:∀m:List (ByteArray×GV),(∀p∈m,blt p.1 q.1=true)→zax q.1 q.2 m=m++ [q]:=by
    intro m
    induction m with
    |nil=>intro _;simp [zax]
    |cons p m ih=>
     intro h
     simp only [zax,h p (List.mem_cons_self ..),if_true,List.cons_append]
     rw[ih fun x hx=>h x (List.mem_cons_of_mem _ hx)]
   exact this m fun p hp=>hlt p hp q (List.mem_cons_self ..)
  rw[e,zhf hs.2 (fun p hp=>hc p (List.mem_cons_of_mem _ hp)) (e▸Zt hm) fun p hp x hx=>?_]
  ·simp
  ·rcases List.mem_append.1 hp with hp|hp
   ·exact hlt p hp x (List.mem_cons_of_mem _ hx)
   ·simp at hp;subst hp;exact hs.1 x.1 (List.mem_map_of_mem hx)
theorem zeM:∀(ks:List ByteArray) (l:List GV) (m:List (ByteArray×GV)) (Q:GV→Prop),(∀x∈l,Q x)→(∀p∈m,Q p.2)→Z8 m→∀p∈Zi ks l m,Q p.2
 | [],l,m,Q,_,hm,_,p,hp=>by cases l<;>exact hm p (by simpa [Zi] using hp)
 |k::ks,[],m,Q,_,hm,_,p,hp=>hm p (by simpa [Zi] using hp)
 |k::ks,x::l,m,Q,hl,hm,hs,p,hp=>by
  simp only [Zi] at hp
  refine zeM ks l _ Q (fun y hy=>hl y (List.mem_cons_of_mem _ hy)) (fun q hq=>?_) (Zt hs) p hp
  rcases (Z3 hs).1 hq with rfl|⟨hq,_⟩
  ·exact hl x (List.mem_cons_self ..)
  ·exact hm q hq
theorem zcr (v:GV):zz (zz v)=zz v:=by
 induction v using GV.ind with
 |h kind n f s keys l IH=>
 have hl:∀x∈cleans l,zz x=x:=fun x hx=>by
  rw[zay] at hx
  obtain ⟨y,hy,rfl⟩:=List.mem_map.1 hx
  exact IH y hy
 have hcl:cleans (cleans l)=cleans l:=by
  rw[zay (cleans l)]
  exact (List.map_congr_left hl).trans (List.map_id' _)
 simp only [zz]
 repeat' split
 all_goals (try (simp [zz];done))
 ·simp [zz,hcl]
 ·have hs:=zdv keys (cleans l) [] .nil
  have hv:=zeM keys (cleans l) [] (fun x=>zz x=x) hl (by simp) .nil
  have:=zhf (m:=[]) hs hv .nil (by simp)
  simp only [List.nil_append] at this
  simp [zcI,zz,this]
def ziK (k:Int):Bool:=decide (k=2)||decide (k=3)
def asF (k n:Int)(f:Nat):Nat:=if k=2 then zgd n else f
mutual
def eqP:GV→GV→Bool
 | .mk k n f s ks l,.mk k' n' f' s' ks' l'=>
  if ziK k=true∧ziK k'=true then (if k=2∧k'=2 then decide (n=n') else znD (asF k n f) (asF k' n' f'))
  else decide (k=k') && decide (n=n') && decide (s=s') && decide (ks=ks') && decide (l.length=l'.length) && eqPs l l'
def eqPs:List GV→List GV→Bool
 |x::l,y::l'=>eqP x y && eqPs l l'
 |_,_=>true
end
abbrev gvX (k n:Int)(f:Nat)(s:ByteArray)(ks:List ByteArray)(l:List GV):Av:=.agg [.d (dI k),.d (dI n),.d (dF f),.d (dS s),.d (zav ks),.d (zbI l)]
theorem zdM (k n:Int)(f:Nat)(s:ByteArray)(ks:List ByteArray)(l:List GV):gvA (.mk k n f s ks l)=gvX k n f s ks l:=by simp only [gvA,zaa,ZS,zaW]
theorem zms (k n:Int)(f:Nat)(s:ByteArray)(ks:List ByteArray)(l:List GV):ACalls prog 143 [gvX k n f s ks l] (fun r=>r=aV (.bool (ziK k))):=by
 refine zg [] func143 (by kernel_rfl) rfl ntmps143 results143 (Nat.le_of_ble_eq_true (by kernel_rfl)) ?_;intro hok w0 S0
 clear hok
 (repeat' (first|(with_reducible first|refine zl (fun _=>?_) (fun _=>?_)|refine zk (fun _=>?_) (fun _=>?_)|refine zm zd (by kernel_rfl) ?_|exact zc rfl)|(simp -dsimp)));(all_goals try with_reducible refine zc ?_)
 all_goals simp_all [ziK]
theorem zke (k n:Int)(f:Nat)(s:ByteArray)(ks:List ByteArray)(l:List GV):ACalls prog 144 [gvX k n f s ks l] (fun r=>r=aV (.float .f64 (asF k n f))):=by
 refine zg [] func144 (by kernel_rfl) rfl ntmps144 results144 (Nat.le_of_ble_eq_true (by kernel_rfl)) ?_;intro hok w0 S0
 clear hok
 (repeat' (first|(with_reducible first|refine zl (fun _=>?_) (fun _=>?_)|refine zk (fun _=>?_) (fun _=>?_)|refine zm zd (by kernel_rfl) ?_|exact zc rfl)|(simp -dsimp [Zf])));(all_goals try with_reducible refine zc ?_)
 all_goals simp_all [asF]
theorem zeN:∀{l m:List GV},l.length=m.length→(eqPs l m=true↔∀(i:Nat) (x y:GV),l[i]? =some x→m[i]? =some y→eqP x y=true)
 | [],[],_=>by simp [eqPs]
 | [],_::_,h=>by simp at h
 |_::_,[],h=>by simp at h
 |a::l,b::m,h=>by
  simp only [eqPs,Bool.and_eq_true]
  rw[zeN (l:=l) (m:=m) (by simpa using h)]
  constructor
  ·rintro ⟨h1,h2⟩ i x y hx hy
   cases i with
   |zero=>simp at hx hy;subst hx;subst hy;exact h1
   |succ i=>exact h2 i x y (by simpa using hx) (by simpa using hy)
  ·intro h1
   exact ⟨h1 0 a b rfl rfl,fun i x y hx hy=>h1 (i+1) x y (by simpa using hx) (by simpa using hy)⟩
theorem zgk (g:GV):∀h:GV,ACalls prog 87 [gvA g,gvA h] (fun r=>r=aV (.bool (eqP g h))):=by
 induction g using GV.ind with
 |h k n f s ks l IH=>
 rintro ⟨k',n',f',s',ks',l'⟩
 rw[zdM,zdM]
 refine zg [(4,([3],[(0,[]),(2,[]),(1,[]),(3,[]),(4,[]),(5,[])])),(12,([],[(0,[]),(1,[]),(2,[]),(3,[]),(4,[]),(5,[]),(6,[]),(7,[]),(8,[]),(9,[]),(10,[])])),(18,([10],[(0,[]),(1,[]),(2,[]),(3,[]),(4,[]),(5,[]),(6,[]),(7,[]),(8,[]),(9,[]),(10,[]),(11,[])]))] func87 (by kernel_rfl) rfl ntmps87 results87 (Nat.le_of_ble_eq_true (by kernel_rfl)) ?_;intro hok w0 S0
 have hg:=zok (kind:=k) (n:=n) (f:=f) (s:=s) (keys:=ks) (l:=l) (by rw[zdM];exact hok _ (by simp))
 have hh:=zok (kind:=k') (n:=n') (f:=f') (s:=s') (keys:=ks') (l:=l') (by rw[zdM];exact hok _ (by simp))
 have a1:=hg.hkeys;have a2:=hg.hl;have a3:=hh.hkeys;have a4:=hh.hl
 have b1:ks.length≤9223372036854775807:=by omega
 have b2:l.length≤9223372036854775807:=by omega
 have b3:ks'.length≤9223372036854775807:=by omega
 have b4:l'.length≤9223372036854775807:=by omega
 clear hok
 (repeat' (first|(with_reducible first|refine zl (fun _=>?_) (fun _=>?_)|refine zk (fun _=>?_) (fun _=>?_)|refine zt (zms _ _ _ _ _ _) (by first|rfl|(simp -dsimp [b1,b2,b3,b4];done)) ?_|refine Zu (zms _ _ _ _ _ _) rfl (by first|rfl|(simp -dsimp [b1,b2,b3,b4];done)) (by first|rfl|(simp -dsimp [b1,b2,b3,b4];done)) ?_|refine zt (zke _ _ _ _ _ _) (by first|rfl|(simp -dsimp [b1,b2,b3,b4];done)) ?_|refine Zu (zke _ _ _ _ _ _) rfl (by first|rfl|(simp -dsimp [b1,b2,b3,b4];done)) (by first|rfl|(simp -dsimp [b1,b2,b3,b4];done)) ?_|refine zm zd (by kernel_rfl) ?_|exact zc rfl)|(simp -dsimp [b1,b2,b3,b4])));(all_goals try with_reducible refine zc ?_)
 all_goals first
  |(simp_all [eqP];done)
  |(simp_all [eqP,znD];done)
  |(by_cases hd:ks=ks'<;>by_cases hd2:l.length=l'.length<;>simp_all [eqP]<;>omega)
  |skip
 all_goals
  have e1:n=n':=by simp_all
  have e2:s=s':=by simp_all
  have e3:ks.length=ks'.length:=by have h:= ‹(!decide ((ks.length:Int)=ks'.length))=false›;simp at h;omega
  have e4:l.length=l'.length:=by have h:= ‹(!decide ((l.length:Int)=l'.length))=false›;simp at h;omega
  have H:eqP (.mk k n f s ks l) (.mk k' n' f' s' ks' l')=(decide (ks=ks') && eqPs l l'):=by simp_all [eqP]
  rw[H]
  clear H
  refine zJ (fun i:Nat=>⟨[(2,.c (.own 2 0)),(3,.c (.own 3 0)),(68,aV (.int .i64 ks.length)),(69,aV (.int .i64 i))],[(3,.cells (cls (gvD (.mk k' n' f' s' ks' l'))) 27),(2,.cells (cls (gvD (.mk k n f s ks l))) 27)]⟩) (fun i=>i≤ks.length∧∀(j:Nat) (h:j<ks.length) (h':j<ks'.length),j<i→ks[j]=ks'[j]) (fun i=>ks.length - i) 0 ?_ ⟨Nat.zero_le _,fun j x y h=>by omega⟩ ?_
  ·exact Weak.same (by simp -dsimp [zaa,ZS,zaW]) (by simp -dsimp [zaa,ZS,zaW]) (by first|rfl|(simp [zj,Av.ids,Ow.ids,Cl.ids,Go.Smd.keys];done))
  ·rintro i ⟨hi,hall⟩ K hK
   simp only [zaa,ZS,zaW]
   by_cases hlt:i<ks.length
   ·have hlt':i<ks'.length:=by omega
    have hw:IntKind.wrap .i64 ((i:Int)+1)=((i+1:Nat):Int):=by rw[zy]<;>omega
    (repeat' (first|(with_reducible first|refine zl (fun _=>?_) (fun _=>?_)|refine zk (fun _=>?_) (fun _=>?_)|refine zm zd (by kernel_rfl) ?_|exact zc rfl)|(simp -dsimp [b1,b3,hlt,hlt',hw])));(all_goals try with_reducible refine zc ?_)
    ·rename_i hn
     have hn:¬ks[i]=ks'[i]:=by simpa using hn
     have:ks≠ks':=fun e=>hn (by simp only [e])
     simp [this]
    ·rename_i hn
     have hn:ks[i]=ks'[i]:=by simpa using hn
     refine hK _ (i+1) ?_ ⟨by omega,fun j x y hj=>?_⟩ (by omega)
     ·exact Weak.same (by simp -dsimp [zaa,ZS,zaW]) (by simp -dsimp [zaa,ZS,zaW]) (by first|rfl|(simp [zj,Av.ids,Ow.ids,Cl.ids,Go.Smd.keys];done))
     ·by_cases e:j=i
      ·subst e;exact hn
      ·exact hall j x y (by omega)
   ·have hks:ks=ks':=List.ext_getElem e3 fun j x y=>hall j x y (by omega)
    (repeat' (first|(with_reducible first|refine zl (fun _=>?_) (fun _=>?_)|refine zk (fun _=>?_) (fun _=>?_)|refine zm zd (by kernel_rfl) ?_|exact zc rfl)|(simp -dsimp [b2,hlt])));(all_goals try with_reducible refine zc ?_)
    clear hall hK
    have H:(decide (ks=ks') && eqPs l l')=eqPs l l':=by simp [hks]
    rw[H]
    clear H
    refine zJ (fun i:Nat=>⟨[(2,.c (.own 2 0)),(3,.c (.own 3 0)),(86,aV (.int .i64 l.length)),(87,aV (.int .i64 i))],[(3,.cells (cls (gvD (.mk k' n' f' s' ks' l'))) 27),(2,.cells (cls (gvD (.mk k n f s ks l))) 27)]⟩) (fun i=>i≤l.length∧∀(j:Nat) (h:j<l.length) (h':j<l'.length),j<i→eqP l[j] l'[j]=true) (fun i=>l.length - i) 0 ?_ ⟨Nat.zero_le _,fun j x y h=>by omega⟩ ?_
    ·exact Weak.same (by simp -dsimp [zaa,ZS,zaW]) (by simp -dsimp [zaa,ZS,zaW]) (by first|rfl|(simp [zj,Av.ids,Ow.ids,Cl.ids,Go.Smd.keys];done))
    ·rintro i2 ⟨hi2,hall⟩ K2 hK
     simp only [zaa,ZS,zaW]
     by_cases hlt:i2<l.length
     ·have hlt':i2<l'.length:=by omega
      have hw:IntKind.wrap .i64 ((i2:Int)+1)=((i2+1:Nat):Int):=by rw[zy]<;>omega
      (repeat' (first|(with_reducible first|refine zl (fun _=>?_) (fun _=>?_)|refine zk (fun _=>?_) (fun _=>?_)|refine zt (IH l[i2] (List.getElem_mem hlt) l'[i2]) (by first|rfl|(simp -dsimp [b2,b4,hlt,hlt',hw];done)) ?_|(refine Zu (IH l[i2] (List.getElem_mem hlt) l'[i2]) rfl ?_ ?_ ?_;iterate 2 exact by first|rfl|(simp -dsimp [b2,b4,hlt,hlt',hw];done))|refine zm zd (by kernel_rfl) ?_|exact zc rfl)|(simp -dsimp [b2,b4,hlt,hlt',hw])));(all_goals try with_reducible refine zc ?_)
      ·rename_i hn
       have hn:eqP l[i2] l'[i2]=false:=by simpa using hn
       have:¬eqPs l l'=true:=fun h=>by
        have:=(zeN e4).1 h i2 _ _ (List.getElem?_eq_getElem hlt) (List.getElem?_eq_getElem hlt')
        rw[hn] at this;cases this
       rw[Bool.eq_false_iff.2 this]
      ·rename_i hn
       have hn:eqP l[i2] l'[i2]=true:=by simpa using hn
       refine hK _ (i2+1) ?_ ⟨by omega,fun j x y hj=>?_⟩ (by omega)
       ·exact Weak.same (by simp -dsimp [zaa,ZS,zaW]) (by simp -dsimp [zaa,ZS,zaW]) (by first|rfl|(simp [zj,Av.ids,Ow.ids,Cl.ids,Go.Smd.keys];done))
       ·by_cases e:j=i2
        ·subst e;exact hn
        ·exact hall j x y (by omega)
     ·(repeat' (first|(with_reducible first|refine zl (fun _=>?_) (fun _=>?_)|refine zk (fun _=>?_) (fun _=>?_)|refine zm zd (by kernel_rfl) ?_|exact zc rfl)|(simp -dsimp [hlt])));(all_goals try with_reducible refine zc ?_)
      have:eqPs l l'=true:=(zeN e4).2 fun j x y hx hy=>by
       obtain ⟨j1,rfl⟩:=List.getElem?_eq_some_iff.1 hx
       obtain ⟨j2,rfl⟩:=List.getElem?_eq_some_iff.1 hy
       exact hall j j1 j2 (by omega)
      rw[this]
theorem zkf {k:ByteArray}{t:Tree}:∀{m:List (ByteArray×Tree)},(m.map (·.1)).Nodup→(k,t)∈m→(k,zM t)∈fromMs m
 | [],_,h=>by cases h
 |p::m,hn,h=>by
  simp only [List.map_cons,List.nodup_cons] at hn
  simp only [fromMs]
  rw[Z3 (ZF m)]
  rcases List.mem_cons.1 h with rfl|h
  ·exact .inl rfl
  ·exact .inr ⟨zkf hn.2 h,fun e=>hn.1 (e▸List.mem_map_of_mem h)⟩
theorem zmt {e:Tree→Tree→Bool}:∀{l m:List Tree},(∀x∈l,∀y∈m,e x y=eqP (zM x) (zM y))→eqL e l m=(decide (l.length=m.length) && eqPs (fromTs l) (fromTs m))
 | [],[],_=>by simp [eqL,fromTs,eqPs]
 | [],_::_,_=>by simp [eqL]
 |_::_,[],_=>by simp [eqL]
 |x::l,y::m,h=>by
  simp only [eqL,fromTs,eqPs]
  rw[zmt (l:=l) (m:=m) fun a ha b hb=>h a (List.mem_cons_of_mem _ ha) b (List.mem_cons_of_mem _ hb),h x (List.mem_cons_self ..) y (List.mem_cons_self ..)]
  simp only [List.length_cons,Nat.succ_eq_add_one,Nat.add_right_cancel_iff]
  cases decide (l.length=m.length)<;>simp
theorem zpH {e:Tree→Tree→Bool}{m1 m2:List (ByteArray×Tree)}(hn1:(m1.map (·.1)).Nodup)(hn2:(m2.map (·.1)).Nodup)(h:∀x∈m1,∀y∈m2,e x.2 y.2=eqP (zM x.2) (zM y.2)):
  zeI e m1 m2=(decide ((fromMs m1).map (·.1)=(fromMs m2).map (·.1)) && decide (((fromMs m1).map (·.2)).length=((fromMs m2).map (·.2)).length) && eqPs ((fromMs m1).map (·.2)) ((fromMs m2).map (·.2))):=by
 have s1:=ZF m1
 have s2:=ZF m2
 have l1:(fromMs m1).length=m1.length:=by
  have:=zcq (zcf s1) hn1 fun q=>zab q m1
  rwa[List.length_map,List.length_map] at this
 have l2:(fromMs m2).length=m2.length:=by
  have:=zcq (zcf s2) hn2 fun q=>zab q m2
  rwa[List.length_map,List.length_map] at this
 rw[Bool.eq_iff_iff]
 unfold zeI eqM
 simp only [Bool.and_eq_true,decide_eq_true_eq,List.all_eq_true,List.length_map,l1,l2]
 have at_:∀(m:List (ByteArray×Tree)) (i:Nat) (k:ByteArray) (a:GV),(fromMs m)[i]? =some (k,a)→∃t,(k,t)∈m∧a=zM t:=fun m i k a hi=>zdd (List.mem_of_getElem? hi)
 constructor
 ·rintro ⟨hl,hall⟩
  have sub:∀q∈m2.map (·.1),q∈m1.map (·.1):=fun q hq=>by
   obtain ⟨p,hp,rfl⟩:=List.mem_map.1 hq
   have:=hall p hp
   unfold eqK at this
   split at this
   ·next x hx=>exact List.mem_map.2 ⟨_,zbP hx,rfl⟩
   ·cases this
  have sup:=ziG hn2 (by simp;omega) sub
  have hk:(fromMs m1).map (·.1)=(fromMs m2).map (·.1):=zff s1 s2 fun q=>by
   rw[zab,zab];exact ⟨sup q,sub q⟩
  refine ⟨⟨hk,hl⟩,(zeN (by simp [l1,l2,hl])).2 fun i x y hx hy=>?_⟩
  rw[List.getElem?_map] at hx hy
  obtain ⟨⟨k,a⟩,ha,rfl⟩:=Option.map_eq_some_iff.1 hx
  obtain ⟨⟨k2,b⟩,hb,rfl⟩:=Option.map_eq_some_iff.1 hy
  have hkk:k=k2:=by
   have e1:((fromMs m1).map (·.1))[i]? =some k:=by rw[List.getElem?_map,ha];rfl
   have e2:((fromMs m2).map (·.1))[i]? =some k2:=by rw[List.getElem?_map,hb];rfl
   rw[hk,e2] at e1;exact (Option.some.inj e1).symm
  subst hkk
  obtain ⟨t,ht,rfl⟩:=at_ m1 i k a ha
  obtain ⟨v,hv,rfl⟩:=at_ m2 i k b hb
  have:=hall _ hv
  unfold eqK at this
  rw[zbw hn1 ht] at this
  exact (h _ ht _ hv).symm.trans this
 ·rintro ⟨⟨hk,hl⟩,hps⟩
  have hps:=(zeN (by simp [l1,l2,hl])).1 hps
  refine ⟨hl,fun p hp=>?_⟩
  have hb:=zkf hn2 (k:=p.1) (t:=p.2) hp
  obtain ⟨i,hi,hib⟩:=List.getElem_of_mem hb
  have hb':(fromMs m2)[i]? =some (p.1,zM p.2):=by rw[List.getElem?_eq_getElem hi,hib]
  have hi1:i<(fromMs m1).length:=by omega
  obtain ⟨⟨k,a⟩,hq⟩:∃q,(fromMs m1)[i]=q:=⟨_,rfl⟩
  have ha':(fromMs m1)[i]? =some (k,a):=by rw[List.getElem?_eq_getElem hi1,hq]
  have hkk:k=p.1:=by
   have e1:((fromMs m1).map (·.1))[i]? =some k:=by rw[List.getElem?_map,ha'];rfl
   have e2:((fromMs m2).map (·.1))[i]? =some p.1:=by rw[List.getElem?_map,hb'];rfl
   rw[hk,e2] at e1;exact (Option.some.inj e1).symm
  subst hkk
  obtain ⟨t,ht,rfl⟩:=at_ m1 i p.1 a ha'
  unfold eqK
  rw[zbw hn1 ht]
  have:=hps i (zM t) (zM p.2) (by rw[List.getElem?_map,ha'];rfl) (by rw[List.getElem?_map,hb'];rfl)
  exact (h _ ht _ hp).trans this
theorem zlk:∀(n:Nat) (x y:Tree),dep x≤n→z8 x→z8 y→eqF n x y=eqP (zM x) (zM y)
 |0,x,y,h,_,_=>by have:=zgg x;omega
 |n+1,x,y,h,hx,hy=>by
  unfold eqF
  cases x<;>cases y<;>simp only [eqT,zM,zcI,eqP]<;>(try (simp [ziK,eqPs];done))
  case float.float a b=>simp [ziK,asF]
  case float.int a b=>simp [ziK,asF]
  case int.float a b=>simp [ziK,asF]
  case bool.bool a b=>cases a<;>cases b<;>simp [ziK,eqPs]
  case list.list l m=>
   simp only [z8] at hx hy
   simp only [dep] at h
   rw[zmt fun a ha b hb=>zlk n a b (by have:=zdJ ha;omega) (hx.2.mem a ha) (hy.2.mem b hb)]
   simp [ziK,zc1]
  case map.map l m=>
   simp only [z8] at hx hy
   simp only [dep] at h
   rw[zpH hx.2.1 hy.2.1 fun a ha b hb=>zlk n a.2 b.2 (by have:=zdK ha;omega) (hx.2.2.mem a ha) (hy.2.2.mem b hb)]
   simp [ziK]
theorem ziL (a b:GV)(ha:z8 (zp a))(hb:z8 (zp b)):eqV (zp a) (zp b)=eqP (zz a) (zz b):=by
 unfold eqV
 rw[zlk _ _ _ (Nat.le_refl _) ha hb,zb4,zb4]
theorem zar (a b:GV):ACalls prog 30 [gvA a,gvA b] (fun r=>r=aV (.bool (eqP (zz a) (zz b)))):=by
 refine zg [(1,([3,4],[(0,[]),(2,[]),(1,[]),(3,[]),(4,[]),(5,[])]))] func30 (by kernel_rfl) rfl ntmps30 results30 (Nat.le_of_ble_eq_true (by kernel_rfl)) ?_;intro hok w0 S0
 clear hok
 (repeat' (first|(with_reducible first|refine zl (fun _=>?_) (fun _=>?_)|refine zk (fun _=>?_) (fun _=>?_)|refine zt (zgj _) (by first|rfl|(simp -dsimp;done)) ?_|refine Zu (zgj _) rfl (by first|rfl|(simp -dsimp;done)) (by first|rfl|(simp -dsimp;done)) ?_|refine zt (zgk _ _) (by first|rfl|(simp -dsimp;done)) ?_|refine Zu (zgk _ _) rfl (by first|rfl|(simp -dsimp;done)) (by first|rfl|(simp -dsimp;done)) ?_|refine zm zd (by kernel_rfl) ?_|exact zc rfl)|(simp -dsimp)));(all_goals try with_reducible refine zc ?_)
end Go.Smd
end
