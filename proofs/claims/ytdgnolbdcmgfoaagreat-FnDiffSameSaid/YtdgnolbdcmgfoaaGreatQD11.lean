/- Part 11. -/
import Derived.Test.YtdgnolbdcmgfoaaGreatQD02
import Derived.Test.YtdgnolbdcmgfoaaGreatQD08
import Derived.Test.YtdgnolbdcmgfoaaGreatQD10
set_option linter.unusedVariables false
set_option linter.unusedSimpArgs false
set_option maxRecDepth 100000
set_option maxHeartbeats 8000000
section
namespace Go.Smd
open Go.RowKit Go.Proofs Go.Proofs.Tryz
theorem zjG:∀a:List UInt8,Op.bytesLess a a=false
 | []=>rfl
 |x::a=>by simp [Op.bytesLess,zjG a]
theorem zlS:∀{a b c:List UInt8},Op.bytesLess a b=true→Op.bytesLess b c=true→Op.bytesLess a c=true
 | [],[],_,h,_=>by simp [Op.bytesLess] at h
 | [],y::b,[],_,k=>by simp [Op.bytesLess] at k
 | [],y::b,z::c,_,_=>by simp [Op.bytesLess]
 |x::a,[],_,h,_=>by simp [Op.bytesLess] at h
 |x::a,y::b,[],_,k=>by simp [Op.bytesLess] at k
 |x::a,y::b,z::c,h,k=>by
  simp only [Op.bytesLess,Bool.or_eq_true,decide_eq_true_eq,Bool.and_eq_true,beq_iff_eq] at*
  rcases h with h|⟨rfl,h⟩
  ·rcases k with k|⟨rfl,k⟩
   ·exact .inl (UInt8.lt_trans h k)
   ·exact .inl h
  ·rcases k with k|⟨rfl,k⟩
   ·exact .inl k
   ·exact .inr ⟨rfl,zlS h k⟩
theorem zqm:∀(a b:List UInt8),Op.bytesLess a b=true∨a=b∨Op.bytesLess b a=true
 | [],[]=>.inr (.inl rfl)
 | [],y::b=>.inl rfl
 |x::a,[]=>.inr (.inr rfl)
 |x::a,y::b=>by
  simp only [Op.bytesLess,Bool.or_eq_true,decide_eq_true_eq,Bool.and_eq_true,beq_iff_eq,List.cons.injEq]
  by_cases h:x<y
  ·exact .inl (.inl h)
  ·by_cases h':y<x
   ·exact .inr (.inr (.inl h'))
   ·have e:x=y:=by
     apply UInt8.toNat_inj.1
     rw[UInt8.lt_iff_toNat_lt] at h h';omega
    subst e
    rcases zqm a b with k|k|k
    ·exact .inl (.inr ⟨rfl,k⟩)
    ·exact .inr (.inl ⟨rfl,k⟩)
    ·exact .inr (.inr (.inr ⟨rfl,k⟩))
theorem zjH (s:ByteArray):∀(n i:Nat) (r:List UInt8),s.size - i=n→ByteArray.toList.loop s i r=r.reverse++s.data.toList.drop i
 |0,i,r,h=>by
  unfold ByteArray.toList.loop
  have:¬i<s.size:=by omega
  have hl:s.data.toList.length=s.size:=by rw[Array.length_toList];rfl
  rw[if_neg this,List.drop_of_length_le (by omega),List.append_nil]
 |n+1,i,r,h=>by
  unfold ByteArray.toList.loop
  have hi:i<s.size:=by omega
  rw[if_pos hi,zjH s n (i+1) _ (by omega)]
  have hi':i<s.data.toList.length:=by rw[Array.length_toList];exact hi
  rw[List.drop_eq_getElem_cons hi']
  have hg:s.get! i=s.data.toList[i]:=by
   simp [ByteArray.get!,Array.getElem!_eq_getD,Array.getD]
   rw[dif_pos hi]
  simp [hg]
theorem zcU (s:ByteArray):s.toList=s.data.toList:=by
 unfold ByteArray.toList
 rw[zjH s s.size 0 [] (by omega)];simp
theorem zh4 {a b:ByteArray}:a.toList=b.toList↔a=b:=by
 rw[zcU,zcU]
 constructor
 ·intro h
  cases a;cases b;congr
  exact Array.toList_inj.1 h
 ·rintro rfl;rfl
def blt (a b:ByteArray):Bool:=Op.bytesLess a.toList b.toList
theorem zP (a:ByteArray):blt a a=false:=zjG _
theorem Zv {a b c:ByteArray}(h:blt a b=true)(k:blt b c=true):blt a c=true:=zlS h k
theorem zeX (a b:ByteArray):blt a b=true∨a=b∨blt b a=true:=by
 rcases zqm a.toList b.toList with h|h|h
 ·exact .inl h
 ·exact .inr (.inl (zh4.1 h))
 ·exact .inr (.inr h)
theorem zjI {a b:ByteArray}(h:blt a b=true):blt b a=false:=by
 cases hb:blt b a with
 |false=>rfl
 |true=>have:=Zv h hb;rw[zP] at this;cases this
theorem zm4 {a b:ByteArray}(h:blt a b=true):a≠b:=fun e=>by rw[e,zP] at h;cases h
theorem zfO (a b:ByteArray):(a.toList==b.toList)=decide (a=b):=by
 by_cases h:a=b
 ·subst h;simp
 ·rw[decide_eq_false h];exact beq_eq_false_iff_ne.2 fun e=>h (zh4.1 e)
section
variable {α:Type}
def Z0 (m:List (ByteArray×α)):Prop:=(m.map (·.1)).Pairwise fun a b=>blt a b=true
def zaq (k:ByteArray)(v:α):List (ByteArray×α)→List (ByteArray×α)
 | []=>[(k,v)]
 |p::m=>if blt p.1 k=true then p::zaq k v m else if p.1=k then (k,v)::m else (k,v)::p::m
def zb4 (k:ByteArray):List ByteArray→Nat
 | []=>0
 |q::ks=>if blt q k=true then zb4 k ks+1 else 0
theorem zlT (k:ByteArray):∀ks:List ByteArray,zb4 k ks≤ks.length
 | []=>Nat.le_refl _
 |q::ks=>by simp only [zb4];split<;>simp [zlT k ks]
theorem zlU {k:ByteArray}:∀{ks:List ByteArray} {i:Nat},i≤ks.length→(∀j q,j<i→ks[j]? =some q→blt q k=true)→(∀q,ks[i]? =some q→blt q k=false)→zb4 k ks=i
 | [],i,h,_,_=>by simp at h;simp [zb4,h]
 |q::ks,0,_,_,h=>by simp [zb4,h q rfl]
 |q::ks,i+1,hi,h1,h2=>by
  simp only [zb4,h1 0 q (by omega) rfl,if_true]
  rw[zlU (i:=i) (by simpa using hi) (fun j p hj hp=>h1 (j+1) p (by omega) (by simpa using hp)) fun p hp=>h2 p (by simpa using hp)]
theorem zc4 {k:ByteArray}{v:α}:∀{m:List (ByteArray×α)},zaq k v m=m.take (zb4 k (m.map (·.1)))++(k,v)::(if (m.map (·.1))[zb4 k (m.map (·.1))]? =some k then m.drop (zb4 k (m.map (·.1))+1) else m.drop (zb4 k (m.map (·.1))))
 | []=>by simp [zaq,zb4]
 |p::m=>by
  simp only [zaq,List.map_cons,zb4]
  split
  ·simp only [List.take_succ_cons,List.cons_append,List.getElem?_cons_succ,List.drop_succ_cons]
   rw[zc4 (m:=m)]
  ·simp only [List.take_zero,List.nil_append,List.getElem?_cons_zero,Option.some.injEq,List.drop_zero,Nat.zero_add,List.drop_one,List.tail_cons]
   split<;>simp
theorem zh5 {k:ByteArray}{v:α}:∀{m:List (ByteArray×α)} {p:ByteArray×α},p∈zaq k v m→p=(k,v)∨p∈m
 | [],p,h=>by simp [zaq] at h;exact .inl h
 |q::m,p,h=>by
  simp only [zaq] at h
  split at h
  ·rcases List.mem_cons.1 h with rfl|h
   ·exact .inr (by simp)
   ·rcases zh5 h with h|h
    ·exact .inl h
    ·exact .inr (by simp [h])
  ·split at h
   ·rcases List.mem_cons.1 h with h|h
    ·exact .inl h
    ·exact .inr (by simp [h])
   ·rcases List.mem_cons.1 h with h|h
    ·exact .inl h
    ·exact .inr (by simpa using h)
theorem Zj {k:ByteArray}{v:α}:∀{m:List (ByteArray×α)},Z0 m→Z0 (zaq k v m)
 | [],_=>by simp [zaq,Z0]
 |p::m,h=>by
  simp only [Z0,List.map_cons,List.pairwise_cons] at h
  simp only [zaq]
  split
  ·next hb=>
   simp only [Z0,List.map_cons,List.pairwise_cons]
   refine ⟨fun a ha=>?_,Zj h.2⟩
   obtain ⟨q,hq,rfl⟩:=List.mem_map.1 ha
   rcases zh5 hq with rfl|hq
   ·exact hb
   ·exact h.1 _ (List.mem_map_of_mem hq)
  ·next hb=>
   split
   ·next he=>
    simp only [Z0,List.map_cons,List.pairwise_cons]
    exact ⟨fun a ha=>by rw[←he];exact h.1 a ha,h.2⟩
   ·next he=>
    have hk:blt k p.1=true:=by
     rcases zeX p.1 k with h'|h'|h'
     ·exact absurd h' hb
     ·exact absurd h' he
     ·exact h'
    simp only [Z0,List.map_cons,List.pairwise_cons]
    refine ⟨fun a ha=>?_,h⟩
    rcases List.mem_cons.1 ha with rfl|ha
    ·exact hk
    ·exact Zv hk (h.1 a ha)
theorem zdh (k:ByteArray)(v:α):∀m:List (ByteArray×α),(zaq k v m).length≤m.length+1
 | []=>by simp [zaq]
 |p::m=>by
  simp only [zaq]
  split
  ·have:=zdh k v m;simp;omega
  ·split<;>simp
end
end Go.Smd
end
section
namespace Go.Smd
open Go.RowKit
abbrev aV (v:Value):Av:=.c (.d (.v v))
section
variable {P:Program} {o:BinOp} {k:IntKind} {T:TypeId} {ox oy:Operand} {a b:Int} {s t:ByteArray} {p q:Bool}
theorem zaY:ZH P o T ox oy (.c (.d (.v .nilIface))) (.c (.d (.v .nilIface)))=zbZ P o T oy true:=rfl
theorem zaZ {x:Tree}:ZH P o T ox oy (.c (.d (.tr x))) (.c (.d (.v .nilIface)))=zbZ P o T oy (Zg x):=rfl
theorem zqn {m:List (ByteArray×Tree)}:ZH P o T ox oy (.c (.d (.mp m))) (.c (.d (.v (.map none))))=zdS o (P.isMap T):=rfl
theorem zqo {E:TypeId}{r:List D}{rs:List (List D)}:ZH P o T ox oy (.c (.d (.sl E (r::rs)))) (.c (.d (.v (.slice none 0 0))))=if 0<P.cellsOf E then zdS o (P.isSl T) else none:=rfl
theorem za0 {U:TypeId}{x:D}:ZH P o T ox oy (.c (.d (.ifc U x))) (.c (.d (.v .nilIface)))=zbo P o T:=rfl
theorem za1 {U:TypeId}{i j:Nat}:ZH P o T ox oy (.c (.io U i j)) (.c (.d (.v .nilIface)))=zbo P o T:=rfl
theorem za2:ZH P .lss T ox oy (.c (.d (.v (.int k a)))) (.c (.d (.v (.int k b))))=some (.c (.d (.v (.bool (decide (a<b)))))):=by
 simp [ZH,zH,eqGuard,binOp,Op.intCmp,pure,Sem.bind,bind,zn,z7]
theorem za3:ZH P .gtr T ox oy (.c (.d (.v (.int k a)))) (.c (.d (.v (.int k b))))=some (.c (.d (.v (.bool (decide (b<a)))))):=by
 simp [ZH,zH,eqGuard,binOp,Op.intCmp,pure,Sem.bind,bind,zn,z7]
theorem za4:ZH P .leq T ox oy (.c (.d (.v (.int k a)))) (.c (.d (.v (.int k b))))=some (.c (.d (.v (.bool (decide (a≤b)))))):=by
 simp [ZH,zH,eqGuard,binOp,Op.intCmp,pure,Sem.bind,bind,zn,z7]
theorem za5:ZH P .geq T ox oy (.c (.d (.v (.int k a)))) (.c (.d (.v (.int k b))))=some (.c (.d (.v (.bool (decide (b≤a)))))):=by
 simp [ZH,zH,eqGuard,binOp,Op.intCmp,pure,Sem.bind,bind,zn,z7]
theorem za6:ZH P .eql T ox oy (.c (.d (.v (.int k a)))) (.c (.d (.v (.int k b))))=some (.c (.d (.v (.bool (decide (a=b)))))):=by
 simp [ZH,zH,eqGuard,binOp,Op.intCmp,pure,Sem.bind,bind,zn,z7];rfl
theorem za7:ZH P .neq T ox oy (.c (.d (.v (.int k a)))) (.c (.d (.v (.int k b))))=some (.c (.d (.v (.bool (decide (a≠b)))))):=by
 simp [ZH,zH,eqGuard,binOp,Op.intCmp,pure,Sem.bind,bind,zn,z7]
 by_cases h:a=b<;>simp [h]
theorem za8:ZH P .add T ox oy (.c (.d (.v (.int k a)))) (.c (.d (.v (.int k b))))=some (.c (.d (.v (.int k (k.wrap (a+b)))))):=by
 simp [ZH,zH,eqGuard,binOp,Op.intArith,pure,Sem.bind,bind,zn,z7,zhw]
theorem za9:ZH P .sub T ox oy (.c (.d (.v (.int k a)))) (.c (.d (.v (.int k b))))=some (.c (.d (.v (.int k (k.wrap (a - b)))))):=by
 simp [ZH,zH,eqGuard,binOp,Op.intArith,pure,Sem.bind,bind,zn,z7,zhw]
theorem zba:ZH P .eql T ox oy (.c (.d (.v (.string s)))) (.c (.d (.v (.string t))))=some (.c (.d (.v (.bool (decide (s=t)))))):=by
 have h:(s.toList==t.toList)=decide (s=t):=by rw[zfO]
 simp [ZH,zH,eqGuard,binOp,Op.stringOp,pure,Sem.bind,bind,zn,z7,h]
theorem zbb:ZH P .neq T ox oy (.c (.d (.v (.string s)))) (.c (.d (.v (.string t))))=some (.c (.d (.v (.bool (decide (s≠t)))))):=by
 have h:(s.toList==t.toList)=decide (s=t):=by rw[zfO]
 simp [ZH,zH,eqGuard,binOp,Op.stringOp,pure,Sem.bind,bind,zn,z7,h]
theorem zbc:ZH P .lss T ox oy (.c (.d (.v (.string s)))) (.c (.d (.v (.string t))))=some (.c (.d (.v (.bool (blt s t))))):=by
 simp [ZH,zH,eqGuard,binOp,Op.stringOp,pure,Sem.bind,bind,zn,z7,blt]
theorem zbd:ZH P .gtr T ox oy (.c (.d (.v (.string s)))) (.c (.d (.v (.string t))))=some (.c (.d (.v (.bool !(blt s t||decide (s=t)))))):=by
 have h:(s.toList==t.toList)=decide (s=t):=by rw[zfO]
 simp [ZH,zH,eqGuard,binOp,Op.stringOp,pure,Sem.bind,bind,zn,z7,blt,h]
theorem zbe {f:FloatKind}{x y:Nat}:ZH P .eql T ox oy (.c (.d (.v (.float f x)))) (.c (.d (.v (.float f y))))=some (.c (.d (.v (.bool (f.format.order x y==some .eq))))):=by
 simp [ZH,zH,eqGuard,binOp,Op.floatCmp,pure,Sem.bind,bind,zn,z7]
theorem zbf {f:FloatKind}{x y:Nat}:ZH P .lss T ox oy (.c (.d (.v (.float f x)))) (.c (.d (.v (.float f y))))=some (.c (.d (.v (.bool (f.format.order x y==some .lt))))):=by
 simp [ZH,zH,eqGuard,binOp,Op.floatCmp,pure,Sem.bind,bind,zn,z7]
theorem zbg {f:FloatKind}{x y:Nat}:ZH P .gtr T ox oy (.c (.d (.v (.float f x)))) (.c (.d (.v (.float f y))))=some (.c (.d (.v (.bool (f.format.order x y==some .gt))))):=by
 simp [ZH,zH,eqGuard,binOp,Op.floatCmp,pure,Sem.bind,bind,zn,z7]
theorem zbh:zH P (Op.unary .not (.bool p))=some (.c (.d (.v (.bool !p)))):=by simp [zH,Op.unary,pure,zn,z7]
theorem zbi (hu:P.underlying T=some .bool):ZH P .eql T ox oy (.c (.d (.v (.bool p)))) (.c (.d (.v (.bool q))))=some (.c (.d (.v (.bool (p==q))))):=by
 have:zn P (Op.equal T (.bool p) (.bool q))=some (p==q):=by
  show zn P (Op.equalIn (9999+1) T (.bool p) (.bool q))=_
  unfold Op.equalIn
  simp [underlying,program,bind,Sem.bind,zn,hu,pure]
 simp [ZH,zH,eqGuard,binOp,pure,Sem.bind,bind,zn,z7]
 revert this
 generalize Op.equal T (.bool p) (.bool q)=m
 intro this
 have key:∀{m:Sem Bool} {x:Bool},zn P m=some x→zn P (m.bind fun a=>Sem.pure (Value.bool a))=some (.bool x):=by
  intro m
  induction m with
  |pure a=>intro x h;simp [zn] at h;subst h;rfl
  |program k ih=>intro x h;exact ih P h
  |mark m k ih=>intro x h;exact ih h
  |_=>intro x h;simp [zn] at h
 rw[key this]
 simp [z7]
theorem zbj (hu:P.underlying T=some .bool):ZH P .neq T ox oy (.c (.d (.v (.bool p)))) (.c (.d (.v (.bool q))))=some (.c (.d (.v (.bool (p !=q))))):=by
 have:zn P (Op.equal T (.bool p) (.bool q))=some (p==q):=by
  show zn P (Op.equalIn (9999+1) T (.bool p) (.bool q))=_
  unfold Op.equalIn
  simp [underlying,program,bind,Sem.bind,zn,hu,pure]
 simp [ZH,zH,eqGuard,binOp,pure,Sem.bind,bind,zn,z7]
 revert this
 generalize Op.equal T (.bool p) (.bool q)=m
 intro this
 have key:∀{m:Sem Bool} {x:Bool},zn P m=some x→zn P (m.bind fun a=>Sem.pure (Value.bool !a))=some (.bool !x):=by
  intro m
  induction m with
  |pure a=>intro x h;simp [zn] at h;subst h;rfl
  |program k ih=>intro x h;exact ih P h
  |mark m k ih=>intro x h;exact ih h
  |_=>intro x h;simp [zn] at h
 rw[key this]
 cases p<;>cases q<;>simp [z7]
section
variable {N:Nat} {w0:World} {S0:Env} {Q:Exit→St→Prop} {σ:St} {x y:Code}
theorem zwm (h:AWp P N w0 S0 x (zqc (AWp P N w0 S0 y Q) Q) σ):AWp P N w0 S0 (.seq x y) Q σ:=zuR fun K hk=>h.mono fun e σ q=>by
 cases e with
 |normal=>exact hk σ q
 |_=>exact q
end
end
section
variable {P:Program}
theorem zn8 {x:D}(h:okA P (.c (.d x))):okD P x:=by obtain ⟨w,S,v,h⟩:=h;exact ⟨w,S,v,h⟩
theorem zkP {xs:List Cl}(h:okA P (.agg xs)):∀c∈xs,∀d,c= .d d→okD P d:=by
 obtain ⟨w,S,v,us,rfl,ha⟩:=h
 rintro c hc d rfl
 obtain ⟨i,hi⟩:=List.getElem?_of_mem hc
 obtain ⟨u,_,hr⟩:=ha.at hi
 exact ⟨w,S,u,hr⟩
theorem zqp {x:Value}(h:okD P (.v x)):z7 x=true:=by obtain ⟨w,S,v,h⟩:=h;cases h with|v h=>exact h
theorem zn9 {n:Int}(h:okD P (.v (.int .i64 n))): -9223372036854775808≤n∧n≤9223372036854775807:=by have:=zqp h;simpa [z7,Z7] using this
theorem zeY {s:ByteArray}(h:okD P (.v (.string s))):s.size≤140737488351232:=by have:=zqp h;simpa [z7] using this
theorem zgr {E:TypeId}{xs:List (List D)}(h:okD P (.sl E xs)):xs.length*P.bytesOf E≤140737488351232∧∀r∈xs,r.length=P.cellsOf E∧∀d∈r,okD P d:=by
 obtain ⟨w,S,v,h⟩:=h
 obtain ⟨A,c,rfl,_,hb,hr⟩:=RepD.sl_iff.1 h
 refine ⟨hb,fun r hm=>?_⟩
 obtain ⟨j,hj⟩:=List.getElem?_of_mem hm
 refine ⟨(hr j r hj).1,fun d hd=>?_⟩
 obtain ⟨i,hi⟩:=List.getElem?_of_mem hd
 obtain ⟨ad,_,hrow⟩:=(hr j r hj).2 (by have:=(List.getElem?_eq_some_iff.1 hi).1;have:=(hr j r hj).1;omega)
 obtain ⟨u,_,_,h3⟩:=hrow i d hi
 exact ⟨w,S,u,h3⟩
theorem zuU {xs:List D}(h:okD P (.pt xs)):∀d∈xs,okD P d:=by
 obtain ⟨w,S,v,h⟩:=h
 obtain ⟨ad,rfl,hr⟩:=RepD.pt_iff.1 h
 intro d hd
 obtain ⟨i,hi⟩:=List.getElem?_of_mem hd
 obtain ⟨u,_,_,h3⟩:=hr i d hi
 exact ⟨w,S,u,h3⟩
end
theorem Weak.cells {P:Program}{N:Nat}{w0:World}{S0:Env}{σ:St}{id:Nat}{xs ys:List Cl}{T:TypeId}(h:σ.h id=some (.cells xs T))(k:All2 (ClLe P) xs ys):Weak P N w0 S0 σ (σ.new id (.cells ys T)):=fun β a w s=>by
 have hS:∀b,Sd w0 S0 β σ.h w b→Sd w0 S0 β (σ.new id (.cells ys T)).h w b:=fun b hb=>⟨hb.1,hb.2.1,fun i o ho=>by
  rw[zt] at ho
  by_cases e:i=id
  ·subst e;simp only [if_true] at ho;cases ho;exact fun hc=>hb.2.2 i _ h (ZN.2 (ZN.1 hc))
  ·simp only [e,if_false] at ho;exact hb.2.2 i o ho⟩
 have st:Steps' P (Sd w0 S0 β σ.h w) (Sd w0 S0 β (σ.new id (.cells ys T)).h w) β β σ.h (σ.new id (.cells ys T)).h w w:=by
  refine ⟨fun x v r=>r.mono hS,fun i zs U hh=>⟨?_,rfl⟩,fun i ver E zs hh=>⟨ver,E,zs,?_,Nat.le_refl _,fun _=>rfl⟩,fun i f zs hh=>⟨⟨f,zs,?_⟩,rfl⟩⟩
  ·rw[zt]
   by_cases e:i=id
   ·simp [e]
   ·exact ⟨zs,U,by simp [e,hh]⟩
  ·rw[zt]
   have e:i≠id:=fun e=>by rw[e,h] at hh;cases hh
   simp [e,hh]
  ·rw[zt]
   have e:i≠id:=fun e=>by rw[e,h] at hh;cases hh
   simp [e,hh]
 refine ⟨β,s.ext,s.hK,fun i o0 hi0=>⟨(s.kept i o0 hi0).1,fun o ho=>?_⟩,fun i j oi oj b hi hj=>?_,fun i o b hi=>?_,fun i o hi=>?_,fun t=>(s.tmp t).step st,s.sz,s.dfr⟩
 ·rw[zt] at ho
  by_cases e:i=id
  ·subst e
   simp only [if_true] at ho;cases ho
   have:=(s.kept i o0 hi0).2 _ h
   cases o0<;>first|exact this|exact this.elim
  ·simp only [e,if_false] at ho;exact (s.kept i o0 hi0).2 o ho
 ·rw[zt] at hi hj
  have f:∀{i oi},(if i=id then some (Ow.cells ys T) else σ.h i)=some oi→∃o',σ.h i=some o'∧∀v b,occ v oi b→occ v o' b:=fun {i oi} hi=>by
   split at hi
   ·next e=>rw[e];cases hi;exact ⟨_,h,fun v b hc=>ZN.2 (ZN.1 hc)⟩
   ·exact ⟨_,hi,fun _ _ h=>h⟩
  obtain ⟨o1,h1,l1⟩:=f hi;obtain ⟨o2,h2,l2⟩:=f hj
  exact fun k1 k2=>s.inj i j o1 o2 b h1 h2 (l1 _ _ k1) (l2 _ _ k2)
 ·rw[zt] at hi
  by_cases e:i=id
  ·subst e;simp only [if_true] at hi;cases hi;exact fun hc=>s.new i _ b h (ZN.2 (ZN.1 hc))
  ·simp only [e,if_false] at hi;exact s.new i o b hi
 ·have hi':=hi
  rw[zt] at hi
  by_cases e:i=id
  ·subst e
   simp only [if_true] at hi;cases hi
   obtain ⟨b,us,h1,h2,h3⟩:=s.own i _ h
   exact ⟨b,us,h1,h2,All2.of (by rw[←k.length,h3.length]) fun j y u hy hu=>by
    obtain ⟨x,hx,hle⟩:=k.at' hy
    obtain ⟨u',hu',hr⟩:=h3.at hx
    rw[hu] at hu';cases hu'
    exact hle _ _ _ _ _ (hr.step st)⟩
  ·simp only [e,if_false] at hi
   have:=s.own i o hi
   cases o with
   |cells zs U=>obtain ⟨b,us,h1,h2,h3⟩:=this;exact ⟨b,us,h1,h2,h3.imp fun _ _ _ r=>r.step st⟩
   |arr ver E zs=>
    obtain ⟨h3,h4,h5⟩:=this
    exact ⟨h3.frame (zr P) (fun _ _=>rfl) (fun _ _=>rfl) (fun _ h=>h) hS,h4,h5⟩
   |clo f zs=>obtain ⟨us,h1,h3⟩:=this;exact ⟨us,h1.mono hS,h3.imp fun _ _ _ r=>r.step st⟩
universe u
inductive Fr where
 |code (c:Code)
 |ops (all l:List Oper)
 |drw (all:List Oper) (B:List Nat) (is:List (Nat×List Nat))
 |blk (id:Nat)
 |lp (K:St→Prop)
abbrev Tg {α:Sort u}(_:α):Type:=Unit
def Br (b:Bool)(A B:Prop)(_:Tg (A∧B)):Prop:=match b with|true=>A|false=>B
theorem zsW {A B:Prop}{t:Tg (A∧B)}:Br true A B t=A:=_root_.id rfl
theorem zqq {A B:Prop}{t:Tg (A∧B)}:Br false A B t=B:=_root_.id rfl
theorem zi {b:Bool}{A B:Prop}{t:Tg (A∧B)}(ht:b=true→A)(hf:b=false→B):Br b A B t:=by
 cases b
 ·exact hf rfl
 ·exact ht rfl
theorem zj {p:Prop}{ip:Decidable p}{A B:Prop}{t:Tg (A∧B)}(ht:p→A)(hf:¬p→B):Br (decide p) A B t:=zi (fun h=>ht (of_decide_eq_true h)) fun h=>hf (of_decide_eq_false h)
def Ob (b:Option Bool)(A B:Prop)(_:Tg (A∧B)):Prop:=match b with|some b=>Br b A B ()|none=>False
theorem zsX {b:Bool}{A B:Prop}{t:Tg (A∧B)}:Ob (some b) A B t=Br b A B ():=_root_.id rfl
def Ov {α:Type}(v:Option α)(K:α→Prop)(E:Prop)(_:Tg (K,E)):Prop:=match v with|some x=>K x|none=>E
theorem zsY {α:Type}{x:α}{K:α→Prop}{E:Prop}{t:Tg (K,E)}:Ov (some x) K E t=K x:=_root_.id rfl
theorem zeZ {α:Type}{K:α→Prop}{E:Prop}{t:Tg (K,E)}:Ov none K E t=E:=_root_.id rfl
def Tst (v:Av)(A B:Prop)(_:Tg (A∧B)):Prop:=match v with| .c (.d (.v (.bool b)))=>Br b A B ()|_=>False
theorem zwn {b:Bool}{A B:Prop}{t:Tg (A∧B)}:Tst (.c (.d (.v (.bool b)))) A B t=Br b A B ():=_root_.id rfl
def zlV (b:Bool)(A:Prop)(_:Tg A):Prop:=b=true∧A
theorem zo2 {A:Prop}{t:Tg A}:zlV true A t=A:=by simp [zlV]
section
variable (P:Program) (N:Nat) (w0:World) (S0:Env) (Q:Exit→St→Prop)
def KQ:List Fr→Exit→St→Prop
 | [],e,σ=>Q e σ
 | .code c::k,e,σ=>match e with
  | .normal=>AWp P N w0 S0 c (KQ k) σ
  |e=>KQ k e σ
 | .blk id::k,e,σ=>match e with
  | .exit id'=>if id'=id then KQ k .normal σ else KQ k (.exit id') σ
  |e=>KQ k e σ
 | .ops all l::k,e,σ=>match e with
  | .normal=>zhI P N all.toArray l σ (KQ k .normal)
  |e=>KQ k e σ
 | .drw all B is::k,e,σ=>match e with
  | .normal=>zh2 P N all.toArray B (KQ k .normal) is σ
  |e=>KQ k e σ
 | .lp K::k,e,σ=>match e with
  | .normal=>K σ
  |e=>KQ k e σ
def zd3 (id:Nat):List Fr→Option (List Fr)
 | []=>none
 | .blk i::k=>if id=i then some k else zd3 id k
 |_::k=>zd3 id k
def Nd (σ:St)(o:Oper)(K:St→Prop)(_:Tg (σ,o,K))(c:Option (FuncId×List Av×List Nat)):Prop:=c=Zh P σ o→zbD P σ o K∨extK P σ o K
def Nw (B:List Nat)(i:Nat)(σ:St)(o:Oper)(K:St→Prop)(_:Tg (B,i,σ,o,K))(c:Option (FuncId×List Av×List Nat)):Prop:=c=Zh P σ o→(B.contains i=true∨(Zu o.op=true∧zhZ P σ o))∧zbD P σ o K
def zhb (σ:St)(o:Oper):Option St:=match o.op,o.dst with
 | .makeFunc fn first caps,some d=>(zcL σ.h d fn first.isEmpty (caps.toList.map σ.ev)).map fun q=>(σ.new q.1 q.2.1).put (some d) q.2.2
 |_,_=>none
def eqS (u v:Option Av):Prop:=∃x,u=some x∧v=some x
def asX (ops:List Oper)(σ:St)(o:Oper):List Nat→Prop
 | []=>ziZ ops.toArray σ o=true
 |k::As=>(match nth ops k with
  |some p=>(isW p.op && p.guard.isNone && Zd N p)=true∧(match Zy P σ p with
   |some q=>(isA p.op||Zu o.op)=true∨eqS (zJ P σ o) (zJ P ((σ.new q.1 q.2.1).put p.dst q.2.2) o)
   |none=>False)
  |none=>False)∧asX ops σ o As
def Dn (P:Program)(ops:List Oper)(B:List Nat)(is:List (Nat×List Nat))(X:Prop)(_:Tg (ops,B,is,X)):Prop:=(P.follows .mixedOrders=true∧zkO ops.toArray B is=true)∧X
abbrev Sch:Type:=List (Nat×List Nat×List (Nat×List Nat))
abbrev Tx (_:Program)(_:Nat)(_:World)(_:Env)(_:Exit→St→Prop)(_:Sch)(_:List Fr):Type:=Unit
def exR (sc:Sch):Nat→List Fr→St→Prop
 |0,k,σ=>KQ P N w0 S0 Q k .normal σ
 |_+1,[],σ=>Q .normal σ
 |_+1,.lp K::_,σ=>K σ
 |n+1,.blk _::k,σ=>exR sc n k σ
 |n+1,.ops _ []::k,σ=>exR sc n k σ
 |n+1,.ops all (o::l)::k,σ=>
  zlV (Zd N o) (Ob (zW all.toArray σ o)
   (Ov (zJ P σ o) (fun r=>exR sc n (.ops all l::k) (σ.put o.dst r)) (Ov (Ze P σ o) (fun σ'=>exR sc n (.ops all l::k) σ') (Ov (zhb σ o) (fun σ'=>exR sc n (.ops all l::k) σ')
    (Nd P σ o (fun σ'=>exR sc n (.ops all l::k) σ') () (Zh P σ o)) ()) ()) ())
   (exR sc n (.ops all l::k) (σ.put o.dst (.tup []))) ()) ()
 |n+1,.drw _ _ []::k,σ=>exR sc n k σ
 |n+1,.drw all B ((i,As)::is)::k,σ=>Ov (nth all i)
  (fun o=>asX P N all σ o As∧zlV (Zd N o) (Ob (zW all.toArray σ o)
   (Ov (zJ P σ o) (fun r=>exR sc n (.drw all B is::k) (σ.put o.dst r)) (Ov (Ze P σ o) (fun σ'=>exR sc n (.drw all B is::k) σ')
    (Nw P B i σ o (fun σ'=>exR sc n (.drw all B is::k) σ') () (Zh P σ o)) ()) ())
   (exR sc n (.drw all B is::k) (σ.put o.dst (.tup []))) ()) ()) False ()
 |n+1,.code c::k,σ=>match c with
  | .seq x y=>exR sc n (.code x:: .code y::k) σ
  | .skip=>exR sc n k σ
  | .label _=>exR sc n k σ
  | .block id c=>exR sc n (.code c:: .blk id::k) σ
  | .exit id=>Ov (zd3 id k) (fun k'=>exR sc n k' σ) (KQ P N w0 S0 Q k (.exit id) σ) ()
  | .ret=>Q .ret σ
  | .cond c x y=>Tst (σ.ev c) (exR sc n (.code x::k) σ) (exR sc n (.code y::k) σ) ()
  | .region id ops false=>exR sc n (.ops ops.toList ops.toList::k) σ
  | .region id ops true=>Ov (zd sc id) (fun q=>Dn P ops.toList q.1 q.2 (exR sc n (.drw ops.toList q.1 q.2::k) σ) ()) (KQ P N w0 S0 Q (.code (.region id ops true)::k) .normal σ) ()
  |c=>KQ P N w0 S0 Q (.code c::k) .normal σ
def ex (P:Program)(N:Nat)(w0:World)(S0:Env)(Q:Exit→St→Prop)(sc:Sch)(k:List Fr)(_:Tx P N w0 S0 Q sc k)(n:Nat)(σ:St):Prop:=exR P N w0 S0 Q sc n k σ
end
section
variable {P:Program} {N:Nat} {w0:World} {S0:Env} {Q:Exit→St→Prop} {sc:Sch}
theorem zqr:∀(k:List Fr) (σ:St),KQ P N w0 S0 Q k .ret σ=Q .ret σ
 | [],σ=>rfl
 | .code _::k,σ| .blk _::k,σ| .ops _ _::k,σ| .drw _ _ _::k,σ| .lp _::k,σ=>zqr k σ
theorem zkQ {id:Nat}:∀{k k':List Fr},zd3 id k=some k'→∀σ,KQ P N w0 S0 Q k' .normal σ→KQ P N w0 S0 Q k (.exit id) σ
 | [],k',h=>by cases h
 | .code _::k,k',h| .ops _ _::k,k',h| .drw _ _ _::k,k',h| .lp _::k,k',h=>fun σ q=>zkQ (k:=k) h σ q
 | .blk i::k,k',h=>fun σ q=>by
  simp only [zd3] at h
  simp only [KQ]
  by_cases e:id=i
  ·rw[if_pos e] at h ⊢;cases h;exact q
  ·rw[if_neg e] at h ⊢;exact zkQ h σ q
theorem zh6 {σ:St}{o:Oper}{K K':St→Prop}(hK:∀σ,K σ→K' σ)(h:zbD P σ o K):zbD P σ o K':=by
 unfold zbD at*
 split at h
 ·obtain ⟨h1,R,h2,h3⟩:=h;exact ⟨h1,R,h2,fun r hr ho=>hK _ (h3 r hr ho)⟩
 ·exact h
theorem zo3 {σ:St}{o:Oper}{K K':St→Prop}(hK:∀σ,K σ→K' σ)(h:extK P σ o K):extK P σ o K':=by
 cases h with
 |range ho hd hx hT hnd hz h=>exact .range ho hd hx hT hnd hz (hK _ h)
 |next ho hx hid h0 h1=>exact .next ho hx hid (fun e=>hK _ (h0 e)) fun k hk hs=>hK _ (h1 k hk hs)
 |entry ho hx hid h=>exact .entry ho hx hid (hK _ h)
 |clo ho hd hq h=>exact .clo ho hd hq (hK _ h)
 |lend hc ha hR hp h=>exact .lend hc ha hR hp fun r hr ho=>hK _ (h r hr ho)
 |proc hc hx ho hh hR h=>exact .proc hc hx ho hh hR fun r own' hr=>⟨(h r own' hr).1,hK _ (h r own' hr).2⟩
 |defer ho hx hd h=>exact .defer ho hx hd (hK _ h)
 |sem h=>exact .sem fun N w0 S0 β a w s hd=>Oper.wp_mono' (h N w0 S0 β a w s hd) fun a w ⟨β',σ',h2,h3⟩=>⟨β',σ',hK _ h2,h3⟩
 |frz hw h=>exact .frz hw (hK _ h)
 |frzv hv h=>exact .frzv hv (hK _ h)
theorem zqs {ops:List Oper}{σ:St}{o:Oper}:∀{As:List Nat},asX P N ops σ o As→zsV P N ops.toArray σ o As
 | [],h=>h
 |k::As,⟨h,ht⟩=>by
  refine ⟨?_,zqs ht⟩
  cases hp:nth ops k with
  |none=>simp only [hp] at h
  |some p=>
   simp only [hp] at h
   obtain ⟨h1,h2⟩:=h
   simp only [Bool.and_eq_true,Option.isNone_iff_eq_none] at h1
   cases hq:Zy P σ p with
   |none=>simp only [hq] at h2
   |some q=>
    simp only [hq] at h2
    refine ⟨p,q,rfl,h1.1.1,h1.1.2,h1.2,hq,?_⟩
    rcases h2 with h2|⟨u,h3,h4⟩
    ·rcases (Bool.or_eq_true ..).mp h2 with h|h
     ·exact .inl h
     ·exact .inr (.inl h)
    ·exact .inr (.inr ⟨u,h3,h4⟩)
theorem zm5 {b:Bool}{A B:Prop}{t:Tg (A∧B)}(h:Br b A B t):(b=true→A)∧(b=false→B):=by cases b<;>simpa [Br] using h
theorem Z3:∀(n:Nat) (k:List Fr) (σ:St),exR P N w0 S0 Q sc n k σ→KQ P N w0 S0 Q k .normal σ
 |0,_,_,h=>h
 |n+1,[],σ,h=>h
 |n+1,.lp K::k,σ,h=>h
 |n+1,.blk _::k,σ,h=>Z3 n k σ h
 |n+1,.ops _ []::k,σ,h=>Z3 n k σ h
 |n+1,.drw _ _ []::k,σ,h=>Z3 n k σ h
 |n+1,.ops all (o::l)::k,σ,⟨hd,h⟩=>by
  show opX P N all.toArray σ o _
  unfold opX
  cases hg:zW all.toArray σ o with
  |none=>rw[hg] at h;exact h.elim
  |some g=>
   rw[hg] at h
   obtain ⟨ht,hf⟩:=zm5 (t:=()) h
   refine ⟨fun e=>⟨hd,?_⟩,fun e=>⟨hd,Z3 n _ _ (hf e)⟩⟩
   have h:=ht e
   cases hv:zJ P σ o with
   |some r=>rw[hv] at h;exact Z3 n _ _ h
   |none=>
    rw[hv] at h
    cases hw:Ze P σ o with
    |some σ'=>rw[zeZ,hw] at h;exact Z3 n _ _ h
    |none=>
     rw[zeZ,hw,zeZ] at h
     cases hc:zhb σ o with
     |some σ'=>
      rw[hc] at h
      unfold zhb at hc
      split at hc
      ·next fn first caps d ho hd=>
       obtain ⟨q,hq,rfl⟩:=Option.map_eq_some_iff.1 hc
       exact .inr (.clo ho hd hq (Z3 n _ _ h))
      ·cases hc
     |none=>
      rw[hc] at h
      rcases h rfl with h|h
      ·exact .inl (zh6 (fun σ'=>Z3 n _ σ') h)
      ·exact .inr (zo3 (fun σ'=>Z3 n _ σ') h)
 |n+1,.drw all B ((i,As)::is)::k,σ,h=>by
  show zh2 P N all.toArray B _ ((i,As)::is) σ
  replace h:Ov (nth all i) _ False ():=h
  cases ho:nth all i with
  |none=>rw[ho] at h;exact h.elim
  |some o=>
   rw[ho] at h
   obtain ⟨hA,hd,h⟩:=h
   refine zxS (o:=o) (g:=zW all.toArray σ o) ho (zqs hA) rfl ?_
   cases hg:zW all.toArray σ o with
   |none=>rw[hg] at h;exact h.elim
   |some g=>
    rw[hg] at h
    obtain ⟨ht,hf⟩:=zm5 (t:=()) h
    cases g with
    |false=>exact ⟨hd,Z3 n _ _ (hf rfl)⟩
    |true=>
     refine ⟨hd,?_⟩
     have h:=ht rfl
     cases hv:zJ P σ o with
     |some r=>rw[hv] at h;exact Z3 n _ _ h
     |none=>
      rw[hv] at h
      unfold VS
      cases hw:Ze P σ o with
      |some σ'=>rw[zeZ,hw] at h;exact Z3 n _ _ h
      |none=>
       rw[zeZ,hw] at h
       exact ⟨(h rfl).1,zh6 (fun σ'=>Z3 n _ σ') (h rfl).2⟩
 |n+1,.code c::k,σ,h=>by
  show AWp P N w0 S0 c (KQ P N w0 S0 Q k) σ
  cases c with
  |seq x y=>
   refine zwm ((Z3 n (.code x:: .code y::k) σ h:AWp P N w0 S0 x _ σ).mono fun e σ q=>?_)
   cases e<;>exact q
  |skip=>exact zsO (Z3 n k σ h)
  |label l=>exact zqd (Z3 n k σ h)
  |block id c=>
   refine zqe ((Z3 n (.code c:: .blk id::k) σ h:AWp P N w0 S0 c _ σ).mono fun e σ q=>?_)
   cases e with
   |exit id'=>
    simp only [KQ] at q
    simp only [zhP]
    by_cases e:id'=id
    ·rw[if_pos e] at q ⊢;exact q
    ·rw[if_neg e] at q ⊢;exact q
   |_=>exact q
  |exit id=>
   refine zsP ?_
   replace h:Ov (zd3 id k) _ _ ():=h
   cases hu:zd3 id k with
   |none=>rw[hu] at h;exact h
   |some k'=>rw[hu] at h;exact zkQ hu σ (Z3 n k' σ h)
  |ret=>exact zuS (by rw[zqr];exact h)
  |cond c x y=>
   replace h:Tst (σ.ev c) _ _ ():=h
   unfold Tst at h
   split at h
   ·next b hb=>
    obtain ⟨ht,hf⟩:=zm5 (t:=()) h
    exact zsN hb (fun e=>Z3 n (.code x::k) σ (ht e)) fun e=>Z3 n (.code y::k) σ (hf e)
   ·exact h.elim
  |region id ops draw=>
   cases draw with
   |false=>
    have h':=Z3 n (.ops ops.toList ops.toList::k) σ h
    exact zoS (l:=ops.toList) h'
   |true=>
    replace h:Ov (zd sc id) _ _ ():=h
    cases hq:zd sc id with
    |none=>rw[hq] at h;exact h
    |some q=>
     rw[hq] at h
     obtain ⟨h1,h2⟩:=h
     have h':=Z3 n (.drw ops.toList q.1 q.2::k) σ h2
     exact zql (l:=ops.toList) h1.1 q.1 q.2 h1.2 h'
  |_=>exact h
theorem zlW {n:Nat}{c:Code}{σ:St}{t:Tx P N w0 S0 Q sc [.code c]}(h:ex P N w0 S0 Q sc [.code c] t n σ):AWp P N w0 S0 c Q σ:=(Z3 n [.code c] σ h:AWp P N w0 S0 c _ σ)
end
end Go.Smd
end
