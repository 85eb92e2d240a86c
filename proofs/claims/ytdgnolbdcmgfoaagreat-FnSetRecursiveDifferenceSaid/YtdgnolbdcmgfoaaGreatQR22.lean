/- Part 22 of the proof: El. -/
import Derived.Test.YtdgnolbdcmgfoaaGreatQR21
set_option linter.unusedVariables false
set_option linter.unusedSimpArgs false
set_option maxRecDepth 100000
set_option maxHeartbeats 8000000
section
namespace Go.Smd
open Go.RowKit Go.Proofs Go.Proofs.Tryz
structure EV where
 k:Int
 s:ByteArray
 keys:List ByteArray
 l:List GV
 v:GV
 n:Int
def evD (e:EV):List D:=[dI e.k,dS e.s,ZK e.keys,zat e.l]++gvD e.v++ [dI e.n]
abbrev evA (e:EV):Av:=.agg (cls (evD e))
@[simp] theorem zwB (e:EV):(evD e).length=11:=by simp [evD]
@[simp] theorem zxQ (e:EV):(evD e).take 11=evD e:=List.take_of_length_le (by simp)
@[simp] theorem zxo (e:EV):(cls (evD e)).take 11=cls (evD e):=List.take_of_length_le (by simp)
abbrev evX (k:Int)(s:ByteArray)(keys:List ByteArray)(l:List GV)(a b:Int)(c:Nat)(d:ByteArray)(e:List ByteArray)(f:List GV)(n:Int):Av:=
 .agg [.d (dI k),.d (dS s),.d (ZK keys),.d (zat l),.d (dI a),.d (dI b),.d (dF c),.d (dS d),.d (ZK e),.d (zat f),.d (dI n)]
theorem zds (k:Int)(s:ByteArray)(keys:List ByteArray)(l:List GV)(a b:Int)(c:Nat)(d:ByteArray)(e:List ByteArray)(f:List GV)(n:Int):evA ⟨k,s,keys,l,.mk a b c d e f,n⟩=evX k s keys l a b c d e f n:=by
 simp only [evD,evA,Z4,List.cons_append,List.nil_append,ZX,za7]
@[simp] theorem zzW (e:EV):coL [none,none,some 9,some 27,none,none,none,none,some 9,some 27,none] (cls (evD e))=cls (evD e):=by
 obtain ⟨k,s,keys,l,⟨a,b,c,d,p,f⟩,n⟩:=e
 simp only [evD,Z4];rfl
structure EVk (e:EV):Prop where
 hk: -9223372036854775808≤e.k∧e.k≤9223372036854775807
 hkeys:e.keys.length*16≤140737488351232
 hl:e.l.length*88≤140737488351232
 hitem:∀x∈e.l,okA prog (gvA x)
 hv:okA prog (gvA e.v)
theorem zqv (k n:Int)(f:Nat)(s:ByteArray)(ks:List ByteArray)(l:List GV):ACalls prog 71 [gvX k n f s ks l] (fun r=>r= .c (.d (dV (zx (.mk k n f s ks l))))):=by
 have h:=zkw (.mk k n f s ks l)
 rw[zci] at h;exact h
abbrev Fds:=List (ByteArray×Tree)
def zbH (p:ByteArray×Tree):List D:=[dS p.1,dV p.2]
abbrev zjO (l:Fds):D:=.sl 205 (l.map zbH)
def zbL (ks:List ByteArray)(l:List GV):Fds:=ks.zip (l.map zx)
theorem zsD (k:Int)(s:ByteArray)(keys:List ByteArray)(l:List GV)(a b:Int)(c:Nat)(d:ByteArray)(e:List ByteArray)(f:List GV)(n:Int)(hk:keys.length*16≤140737488351232)(hl:l.length*88≤140737488351232):
  ACalls prog 127 [evX k s keys l a b c d e f n] (fun r=>r= .c (.d (zjO (zbL keys l)))):=by
 refine ze [] func127 (by kernel_rfl) rfl ntmps127 results127 (Nat.le_of_ble_eq_true (by kernel_rfl)) ?_;intro hok w0 S0
 clear hok
 have b1:keys.length≤9223372036854775807:=by omega
 have b2:l.length≤9223372036854775807:=by omega
 (repeat' (first|(with_reducible first|refine zj (fun _=>?_) (fun _=>?_)|refine zi (fun _=>?_) (fun _=>?_)|refine zk zb (by kernel_rfl) ?_|exact za rfl)|(simp -dsimp [b1,b2])));(all_goals try with_reducible refine za ?_)
 refine zC (fun i:Nat=>⟨[(1,.c (.own 1 0)),(3,.c (.gs 6 ((zbL keys l).take i).length)),(8,.c (.d (ZK keys))),(9,aV (.int .i64 keys.length)),(10,aV (.int .i64 i))],[(6,.arr ((zbL keys l).take i).length 205 (((zbL keys l).take i).map zbH)),
  (1,.cells [.d (dI k),.d (dS s),.d (ZK keys),.d (zat l),.d (dI a),.d (dI b),.d (dF c),.d (dS d),.d (ZK e),.d (zat f),.d (dI n)] 29)]⟩) (fun i=>i≤keys.length) (fun i=>keys.length - i) 0 ?_ (Nat.zero_le _) ?_
 ·exact Weak.same (by simp -dsimp [List.take_zero,List.length_nil,List.map_nil]) (by simp -dsimp [List.take_zero,List.length_nil,List.map_nil]) (by first|rfl|(simp [zf,Av.ids,Ow.ids,Cl.ids,Go.Smd.keys];done))
 ·rintro i hi K hK
  by_cases hlt:i<keys.length
  ·have hw:IntKind.wrap .i64 ((i:Int)+1)=((i+1:Nat):Int):=by rw[zn]<;>omega
   by_cases hl2:i<l.length
   ·have h1:((zbL keys l).take (i+1))=(zbL keys l).take i++ [(keys[i],zx l[i])]:=by
     rw[List.take_succ_eq_append_getElem (by simp [zbL];omega)]
     simp [zbL]
    have h2:((zbL keys l).take i).length=i:=by simp [zbL];omega
    have hb:(min i (zbL keys l).length+1)*32≤140737488351232:=by omega
    rw[h2]
    (repeat' (first|(with_reducible first|refine zj (fun _=>?_) (fun _=>?_)|refine zi (fun _=>?_) (fun _=>?_)|refine zl (zkw _) (by first|rfl|(simp -dsimp [b1,b2,hlt,hl2,hw,h2,hb,zc];done)) ?_|refine zk zb (by kernel_rfl) ?_|exact za rfl)|(simp -dsimp [b1,b2,hlt,hl2,hw,h2,hb,zc])));(all_goals try with_reducible refine za ?_)
    refine hK _ (i+1) ?_ (by omega) (by omega)
    rw[h1]
    exact Weak.same (by simp -dsimp [h2,List.map_append,List.map_take,zbH]) (by simp -dsimp [h2,List.map_append,List.map_take,zbH]) (by first|rfl|(simp [zf,Av.ids,Ow.ids,Cl.ids,Go.Smd.keys];done))
   ·have h1:((zbL keys l).take (i+1))=(zbL keys l).take i:=by
     rw[List.take_of_length_le (by simp [zbL];omega),List.take_of_length_le (by simp [zbL];omega)]
    (repeat' (first|(with_reducible first|refine zj (fun _=>?_) (fun _=>?_)|refine zi (fun _=>?_) (fun _=>?_)|refine zk zb (by kernel_rfl) ?_|exact za rfl)|(simp -dsimp [b1,b2,hlt,hl2,hw])));(all_goals try with_reducible refine za ?_)
    refine hK _ (i+1) ?_ (by omega) (by omega)
    rw[h1]
    exact Weak.same (by simp -dsimp) (by simp -dsimp) (by first|rfl|(simp [zf,Av.ids,Ow.ids,Cl.ids,Go.Smd.keys];done))
  ·have h1:(zbL keys l).take i=zbL keys l:=List.take_of_length_le (by simp [zbL];omega)
   (repeat' (first|(with_reducible first|refine zj (fun _=>?_) (fun _=>?_)|refine zi (fun _=>?_) (fun _=>?_)|refine zk zb (by kernel_rfl) ?_|exact za rfl)|(simp -dsimp [hlt,h1])));(all_goals try with_reducible refine za ?_)
def zwC (op:BinOp)(q:Option (Option TypeId)):Option Av:=
 match op,q with
 | .eql,some (some _)=>some (.c (.d (.v (.bool false))))
 | .neq,some (some _)=>some (.c (.d (.v (.bool true))))
 |_,_=>none
@[simp ↓] theorem zxR {P:Program}{op:BinOp}{T:TypeId}{ox oy:Operand}{xs:List D}:ZR P op T ox oy (.c (.d (.pt xs))) (.c (.d (.v (.pointer none))))=zwC op (P.ptrT T):=by
 simp only [ZR,zwC,Go.Program.ptrT]
 cases h:P.underlying T with
 |none=>cases op<;>rfl
 |some d=>cases d<;>cases op<;>rfl
def _root_.Go.Program.isPtrT (P:Program)(T:TypeId):Bool:=match P.ptrT T with|some (some _)=>true|_=>false
theorem zkz {P:Program}{T:TypeId}(h:P.isPtrT T=true):zp P (Op.equal T (.pointer none) (.pointer none))=some true:=by
 obtain ⟨E,hu⟩:∃E,P.underlying T=some (.pointer E):=by
  unfold Go.Program.isPtrT Go.Program.ptrT at h
  cases hu:P.underlying T with
  |none=>rw[hu] at h;cases h
  |some d=>rw[hu] at h;cases d<;>first|exact ⟨_,rfl⟩|cases h
 show zp P (Op.equalIn (9999+1) T (.pointer none) (.pointer none))=_
 unfold Op.equalIn
 simp [underlying,program,bind,Sem.bind,zp,hu,pure]
theorem zi2 {P:Program}{g:Bool→Value}:∀{m:Sem Bool} {x:Bool},zp P m=some x→zp P (m.bind fun a=>Sem.pure (g a))=some (g x):=by
 intro m
 induction m with
 |pure a=>intro x h;simp [zp] at h;subst h;rfl
 |program k ih=>intro x h;exact ih P h
 |mark m k ih=>intro x h;exact ih h
 |_=>intro x h;simp [zp] at h
@[simp ↓] theorem zxS {P:Program}{T:TypeId}{ox oy:Operand}(h:P.isPtrT T=true):ZR P .eql T ox oy (.c (.d (.v (.pointer none)))) (.c (.d (.v (.pointer none))))=some (.c (.d (.v (.bool true)))):=by
 have:=zkz h
 simp [ZR,zL,eqGuard,binOp,pure,Sem.bind,bind,zp,Zc]
 rw[zi2 (g:=fun b=>.bool b) this]
 rfl
@[simp ↓] theorem zxT {P:Program}{T:TypeId}{ox oy:Operand}(h:P.isPtrT T=true):ZR P .neq T ox oy (.c (.d (.v (.pointer none)))) (.c (.d (.v (.pointer none))))=some (.c (.d (.v (.bool false)))):=by
 have:=zkz h
 simp [ZR,zL,eqGuard,binOp,pure,Sem.bind,bind,zp,Zc]
 rw[zi2 (g:=fun b=>.bool (!b)) this]
 rfl
attribute [simp] Go.Program.isPtrT
attribute [simp] zwC
inductive LE where
 |name (s:ByteArray)
 |key (l:Fds)
 |val (t:Tree)
 |idx (n:Int)
abbrev zhM:D:=.v (.pointer none)
abbrev leD:LE→List  D
 | .name s=>[.pt [dS s],zhM,zhM,zhM]
 | .key l=>[zhM,.pt [zjO l],zhM,zhM]
 | .val t=>[zhM,zhM,.pt [dV t],zhM]
 | .idx n=>[zhM,zhM,zhM,.pt [dI n]]
abbrev leA (p:LE):Av:=.agg (cls (leD p))
@[simp] theorem zwD (p:LE):(leD p).length=4:=by cases p<;>rfl
@[simp] theorem zxU (p:LE):(leD p).take 4=leD p:=List.take_of_length_le (by simp)
@[simp] theorem zxp (p:LE):(cls (leD p)).take 4=cls (leD p):=List.take_of_length_le (by simp)
@[simp] theorem zzX (p:LE):coL [none,none,none,none] (cls (leD p))=cls (leD p):=by cases p<;>rfl
def zR (e:EV):LE:=if e.k=1 then .key (zbL e.keys e.l) else if e.k=2 then .val (zx e.v) else if e.k=3 then .idx e.n else .name e.s
theorem zsE (k:Int)(s:ByteArray)(keys:List ByteArray)(l:List GV)(a b:Int)(c:Nat)(d:ByteArray)(e:List ByteArray)(f:List GV)(n:Int)(hk:keys.length*16≤140737488351232)(hl:l.length*88≤140737488351232):
  ACalls prog 70 [evX k s keys l a b c d e f n] (fun r=>r=leA (zR ⟨k,s,keys,l,.mk a b c d e f,n⟩)):=by
 refine ze [] func70 (by kernel_rfl) rfl ntmps70 results70 (Nat.le_of_ble_eq_true (by kernel_rfl)) ?_;intro hok w0 S0
 clear hok
 (repeat' (first|(with_reducible first|refine zj (fun _=>?_) (fun _=>?_)|refine zi (fun _=>?_) (fun _=>?_)|refine zl (zsD _ _ _ _ _ _ _ _ _ _ _ hk hl) (by first|rfl|(simp -dsimp;done)) ?_|refine zl (zqv _ _ _ _ _ _) (by first|rfl|(simp -dsimp;done)) ?_|refine zk zb (by kernel_rfl) ?_|exact za rfl)|(simp -dsimp)));(all_goals try with_reducible refine za ?_)
 all_goals simp_all [zR,cls]
def zxV:Fds→Fds→Bool
 |p::l,q::m=>decide (p.1=q.1) && eqV p.2 q.2 && zxV l m
 | [],[]=>true
 |_,_=>false
def Z5:LE→Prop
 | .key l=>∀p∈l,Zl p.2
 | .val t=>Zl t
 |_=>True
@[simp] theorem zyW:prog.isStr  9=true:=by kernel_rfl
theorem zbz (a b:Int):ACalls prog 122 [aI a,aI b] (fun r=>∃n,r=aI n):=by
 refine ze [] func122 (by kernel_rfl) rfl ntmps122 results122 (Nat.le_of_ble_eq_true (by kernel_rfl)) ?_;intro hok w0 S0
 clear hok
 (repeat' (first|(with_reducible first|refine zj (fun _=>?_) (fun _=>?_)|refine zi (fun _=>?_) (fun _=>?_)|refine zk zb (by kernel_rfl) ?_|exact za rfl)|(simp -dsimp)));(all_goals try with_reducible refine za ?_)
 all_goals exact ⟨_,rfl⟩
theorem zcI (b:UInt8):zL prog (convert 5 2 (.int .u8 b.toNat))=some (.c (.d (.v (.int .i64 b.toNat)))):=by
 have hb:=b.toNat_lt
 have h:zp prog (convert 5 2 (.int .u8 b.toNat))=some (.int .i64 b.toNat):=by
  have hw:IntKind.wrap .i64 (b.toNat:Int)=b.toNat:=by rw[zn]<;>omega
  simp [convert,underlying,program,bind,Sem.bind,zp,pure,Conv.intToInt,hw]
 unfold zL;rw[h];simp [Zc,zak];omega
theorem zdZ (s t:ByteArray):ACalls prog 121 [aS s,aS t] (fun r=>∃n,r=aI n):=by
 refine ze [(4,([],[(0,[]),(1,[]),(2,[]),(3,[]),(4,[]),(5,[]),(6,[])])),(5,([8],[(0,[]),(1,[]),(2,[]),(3,[]),(4,[]),(5,[]),(6,[]),(7,[]),(8,[]),(9,[])]))] func121 (by kernel_rfl) rfl ntmps121 results121 (Nat.le_of_ble_eq_true (by kernel_rfl)) ?_;intro hok w0 S0
 have b1:=zfo (zo1 (hok (aS s) (by simp)))
 have b2:=zfo (zo1 (hok (aS t) (by simp)))
 clear hok
 (repeat' (first|(with_reducible first|refine zj (fun _=>?_) (fun _=>?_)|refine zi (fun _=>?_) (fun _=>?_)|refine zk zb (by kernel_rfl) ?_|exact za rfl)|(simp -dsimp)));(all_goals try with_reducible refine za ?_)
 refine zC (fun i:Nat=>⟨[(0,aS s),(1,aS t),(5,aI i)],[]⟩) (fun i=>i≤s.size) (fun i=>s.size - i) 0 ?_ (Nat.zero_le _) ?_
 ·exact Weak.same (by simp -dsimp) (by simp -dsimp) (by first|rfl|(simp [zf,Av.ids,Ow.ids,Cl.ids,Go.Smd.keys];done))
 ·rintro i hi K hK
  have hw:IntKind.wrap .i64 ((i:Int)+1)=((i+1:Nat):Int):=by rw[zn]<;>omega
  by_cases h1:i<s.size
  ·by_cases h2:i<t.size
   ·(repeat' (first|(with_reducible first|refine zj (fun _=>?_) (fun _=>?_)|refine zi (fun _=>?_) (fun _=>?_))|((with_reducible refine zlA (zbz _ _) (by first|rfl|(simp -dsimp [hw,h1,h2,zcI];done)) ?_);rintro _ ⟨x,rfl⟩ _)|((with_reducible refine zlB (zbz _ _) rfl (by first|rfl|(simp -dsimp [hw,h1,h2,zcI];done)) (by first|rfl|(simp -dsimp [hw,h1,h2,zcI];done)) ?_);rintro _ ⟨x,rfl⟩ _)|(with_reducible first|refine zk zb (by kernel_rfl) ?_|exact za rfl)|(simp -dsimp [hw,h1,h2,zcI])));(all_goals try with_reducible refine za ?_)
    ·exact ⟨_,rfl⟩
    ·refine hK _ (i+1) ?_ (by omega) (by omega)
     exact Weak.same (by simp -dsimp) (by simp -dsimp) (by first|rfl|(simp [zf,Av.ids,Ow.ids,Cl.ids,Go.Smd.keys];done))
   ·(repeat' (first|(with_reducible first|refine zj (fun _=>?_) (fun _=>?_)|refine zi (fun _=>?_) (fun _=>?_))|((with_reducible refine zlA (zbz _ _) (by first|rfl|(simp -dsimp [hw,h1,h2];done)) ?_);rintro _ ⟨x,rfl⟩ _)|((with_reducible refine zlB (zbz _ _) rfl (by first|rfl|(simp -dsimp [hw,h1,h2];done)) (by first|rfl|(simp -dsimp [hw,h1,h2];done)) ?_);rintro _ ⟨x,rfl⟩ _)|(with_reducible first|refine zk zb (by kernel_rfl) ?_|exact za rfl)|(simp -dsimp [hw,h1,h2])));(all_goals try with_reducible refine za ?_)
    all_goals exact ⟨_,rfl⟩
  ·(repeat' (first|(with_reducible first|refine zj (fun _=>?_) (fun _=>?_)|refine zi (fun _=>?_) (fun _=>?_))|((with_reducible refine zlA (zbz _ _) (by first|rfl|(simp -dsimp [hw,h1];done)) ?_);rintro _ ⟨x,rfl⟩ _)|((with_reducible refine zlB (zbz _ _) rfl (by first|rfl|(simp -dsimp [hw,h1];done)) (by first|rfl|(simp -dsimp [hw,h1];done)) ?_);rintro _ ⟨x,rfl⟩ _)|(with_reducible first|refine zk zb (by kernel_rfl) ?_|exact za rfl)|(simp -dsimp [hw,h1])));(all_goals try with_reducible refine za ?_)
   all_goals exact ⟨_,rfl⟩
theorem zhw (l:List GV)(hl:l.length*88≤140737488351232):ACalls prog 75 [.c (.d (zat l))] (fun r=>r= .c (.d (zat (l.map zw)))):=by
 refine ze [] func75 (by kernel_rfl) rfl ntmps75 results75 (Nat.le_of_ble_eq_true (by kernel_rfl)) ?_;intro hok w0 S0
 clear hok
 have b1:l.length≤9223372036854775807:=by omega
 have b2:88*l.length≤281474976710656:=by omega
 (repeat' (first|(with_reducible first|refine zj (fun _=>?_) (fun _=>?_)|refine zi (fun _=>?_) (fun _=>?_)|refine zk zb (by kernel_rfl) ?_|exact za rfl)|(simp -dsimp [b1,b2])));(all_goals try with_reducible refine za ?_)
 refine zC (fun i:Nat=>⟨[(3,.c (.gs 8 i)),(9,.c (.d (zat l))),(10,aI l.length),(11,aI i)],[(8,.arr i 27 ((l.map (gvD∘zw)).take i))]⟩) (fun i=>i≤l.length) (fun i=>l.length - i) 0 ?_ (Nat.zero_le _) ?_
 ·exact Weak.same (by simp -dsimp) (by simp -dsimp) (by first|rfl|(simp [zf,Av.ids,Ow.ids,Cl.ids,Go.Smd.keys];done))
 ·rintro i hi K hK
  by_cases hlt:i<l.length
  ·have hw:IntKind.wrap .i64 ((i:Int)+1)=((i+1:Nat):Int):=by rw[zn]<;>omega
   have hb:(min i l.length+1)*88≤140737488351232:=by omega
   have h1:(l.map (gvD∘zw)).take (i+1)=(l.map (gvD∘zw)).take i++ [gvD (zw l[i])]:=by
    rw[List.take_succ_eq_append_getElem (by simpa using hlt)]
    simp
   (repeat' (first|(with_reducible first|refine zj (fun _=>?_) (fun _=>?_)|refine zi (fun _=>?_) (fun _=>?_)|refine zl (zeo _) (by first|rfl|(simp -dsimp [b1,hlt,hw,hb,zc];done)) ?_|refine zk zb (by kernel_rfl) ?_|exact za rfl)|(simp -dsimp [b1,hlt,hw,hb,zc])));(all_goals try with_reducible refine za ?_)
   refine hK _ (i+1) ?_ (by omega) (by omega)
   rw[h1]
   exact Weak.same (by simp -dsimp) (by simp -dsimp) (by first|rfl|(simp [zf,Av.ids,Ow.ids,Cl.ids,Go.Smd.keys];done))
  ·(repeat' (first|(with_reducible first|refine zj (fun _=>?_) (fun _=>?_)|refine zi (fun _=>?_) (fun _=>?_)|refine zk zb (by kernel_rfl) ?_|exact za rfl)|(simp -dsimp [hlt])));(all_goals try with_reducible refine za ?_)
   rw[List.take_of_length_le (by simp;omega)]
   show _=Av.c (.d (.sl _ ((l.map zw).map gvD)))
   rw[List.map_map]
theorem zhx (k:Int)(s:ByteArray)(keys:List ByteArray)(l:List GV)(a b:Int)(c:Nat)(d:ByteArray)(e:List ByteArray)(f:List GV)(n:Int)(hk:keys.length*16≤140737488351232)(hl:l.length*88≤140737488351232):
  ACalls prog 63 [evX k s keys l a b c d e f n] (fun r=>∃k s ks l a b c d e f n,r=evX k s ks l a b c d e f n∧ks.length*16≤140737488351232∧l.length*88≤140737488351232):=by
 refine ze [(4,([10],[(1,[]),(2,[]),(3,[]),(4,[]),(6,[]),(7,[]),(8,[]),(9,[]),(0,[]),(5,[]),(10,[]),(11,[]),(12,[])]))] func63 (by kernel_rfl) rfl ntmps63 results63 (Nat.le_of_ble_eq_true (by kernel_rfl)) ?_;intro hok w0 S0
 clear hok
 have b1:keys.length≤9223372036854775807:=by omega
 have b2:l.length≤9223372036854775807:=by omega
 have hc:=zeo (.mk a b c d e f)
 obtain ⟨a1,a2,a3,a4,a5,a6,hcl⟩:∃a1 a2 a3 a4 a5 a6,zw (.mk a b c d e f)= .mk a1 a2 a3 a4 a5 a6:=by cases zw (.mk a b c d e f);exact ⟨_,_,_,_,_,_,rfl⟩
 rw[hcl,zci,zci] at hc
 obtain ⟨m,hm⟩:∃m:Nat,m=min keys.length l.length:=⟨_,rfl⟩
 have hmin:min (keys.length:Int) (l.length:Int)=(m:Int):=by omega
 have hm1:m≤keys.length:=by omega
 have hm2:m≤l.length:=by omega
 have hp:=zhw (l.take m) (by simp;omega)
 rw[show zat (l.take m)= .sl 27 ((l.map gvD).take m) by rw[zat,List.map_take]] at hp
 have hr:m*16≤140737488351232:=by omega
 (repeat' (first|(with_reducible first|refine zj (fun _=>?_) (fun _=>?_)|refine zi (fun _=>?_) (fun _=>?_)|refine zl (hc) (by first|rfl|(simp -dsimp [b1,b2,zc,hmin,hm1,hm2,hr];done)) ?_|(refine zA (hc) rfl ?_ ?_ ?_;iterate 2 exact by first|rfl|(simp -dsimp [b1,b2,zc,hmin,hm1,hm2,hr];done))|refine zl (hp) (by first|rfl|(simp -dsimp [b1,b2,zc,hmin,hm1,hm2,hr];done)) ?_|(refine zA (hp) rfl ?_ ?_ ?_;iterate 2 exact by first|rfl|(simp -dsimp [b1,b2,zc,hmin,hm1,hm2,hr];done))|refine zk zb (by kernel_rfl) ?_|exact za rfl)|(simp -dsimp [b1,b2,zc,hmin,hm1,hm2,hr])));(all_goals try with_reducible refine za ?_)
 ·refine zem ⟨1,.empty,keys.take m,(l.take m).map zw,0,0,0,.empty,[],[],0,?_,by simp;omega,by simp;omega⟩
  simp only [evX,ZK,zat,ZL,List.map_take];rfl
 ·exact zem ⟨2,.empty,[],[],a1,a2,a3,a4,a5,a6,0,rfl,by simp,by simp⟩
 ·exact zem ⟨3,.empty,[],[],0,0,0,.empty,[],[],n,rfl,by simp,by simp⟩
 ·exact zem ⟨0,s,[],[],0,0,0,.empty,[],[],0,rfl,by simp,by simp⟩
theorem zmW (k:Int)(s:ByteArray)(keys:List ByteArray)(l:List GV)(a b:Int)(c:Nat)(d:ByteArray)(e:List ByteArray)(f:List GV)(n:Int)(hk:keys.length*16≤140737488351232)(hl:l.length*88≤140737488351232):
  ACalls prog 66 [evX k s keys l a b c d e f n] (fun r=>∃b,r=aV (.bool b)):=by
 refine ze [(5,([11],[(0,[]),(1,[]),(2,[]),(3,[]),(4,[]),(5,[]),(6,[]),(7,[]),(8,[]),(9,[]),(10,[]),(11,[]),(12,[])]))] func66 (by kernel_rfl) rfl ntmps66 results66 (Nat.le_of_ble_eq_true (by kernel_rfl)) ?_;intro hok w0 S0
 clear hok
 (repeat' (first|(with_reducible first|refine zj (fun _=>?_) (fun _=>?_)|refine zi (fun _=>?_) (fun _=>?_))|((with_reducible refine zlA (zhx _ _ _ _ _ _ _ _ _ _ _ hk hl) (by first|rfl|(simp -dsimp;done)) ?_);rintro _ ⟨k2,s2,ks2,l2,a2,b2,c2,d2,e2,f2,n2,rfl,hk2,hl2⟩ _)|((with_reducible refine zlB (zhx _ _ _ _ _ _ _ _ _ _ _ hk hl) rfl (by first|rfl|(simp -dsimp;done)) (by first|rfl|(simp -dsimp;done)) ?_);rintro _ ⟨k2,s2,ks2,l2,a2,b2,c2,d2,e2,f2,n2,rfl,hk2,hl2⟩ _)|(with_reducible first|refine zk zb (by kernel_rfl) ?_|exact za rfl)|(simp -dsimp)));(all_goals try with_reducible refine za ?_)
 refine zC (fun i:Nat=>⟨[(1,.c (.own 1 0)),(3,aI (i+1))],[(1,.cells [.d (dI k2),.d (dS s2),.d (ZK ks2),.d (zat l2),.d (dI a2),.d (dI b2),.d (dF c2),.d (dS d2),.d (ZK e2),.d (zat f2),.d (dI n2)] 29)]⟩) (fun i=>i≤ks2.length) (fun i=>ks2.length - i) 0 ?_ (Nat.zero_le _) ?_
 ·exact Weak.same (by simp -dsimp) (by simp -dsimp) (by first|rfl|(simp [zf,Av.ids,Ow.ids,Cl.ids,Go.Smd.keys];done))
 ·rintro i hi K hK
  have b1:ks2.length≤9223372036854775807:=by omega
  by_cases hlt:i+1<ks2.length
  ·have hw:IntKind.wrap .i64 ((i:Int)+1+1)=(i:Int)+1+1:=by rw[zn]<;>omega
   have hw2:IntKind.wrap .i64 (i:Int)=(i:Int):=by rw[zn]<;>omega
   have h0:i<ks2.length:=by omega
   have h1:(i:Int)+1<ks2.length:=by omega
   have h2:(0:Int)≤i+1:=by omega
   have h3:((i:Int)+1).toNat=i+1:=by omega
   (repeat' (first|(with_reducible first|refine zj (fun _=>?_) (fun _=>?_)|refine zi (fun _=>?_) (fun _=>?_))|((with_reducible refine zlA (zdZ _ _) (by first|rfl|(simp -dsimp [b1,hlt,hw,hw2,h0,h1,h2,h3,ZL];done)) ?_);rintro _ ⟨x,rfl⟩ _)|((with_reducible refine zlB (zdZ _ _) rfl (by first|rfl|(simp -dsimp [b1,hlt,hw,hw2,h0,h1,h2,h3,ZL];done)) (by first|rfl|(simp -dsimp [b1,hlt,hw,hw2,h0,h1,h2,h3,ZL];done)) ?_);rintro _ ⟨x,rfl⟩ _)|(with_reducible first|refine zk zb (by kernel_rfl) ?_|exact za rfl)|(simp -dsimp [b1,hlt,hw,hw2,h0,h1,h2,h3,ZL])));(all_goals try with_reducible refine za ?_)
   ·exact ⟨_,rfl⟩
   ·refine hK _ (i+1) ?_ (by omega) (by omega)
    exact Weak.same (by simp -dsimp) (by simp -dsimp) (by first|rfl|(simp [zf,Av.ids,Ow.ids,Cl.ids,Go.Smd.keys];done))
  ·have h1:¬((i:Int)+1<ks2.length):=by omega
   (repeat' (first|(with_reducible first|refine zj (fun _=>?_) (fun _=>?_)|refine zi (fun _=>?_) (fun _=>?_)|refine zk zb (by kernel_rfl) ?_|exact za rfl)|(simp -dsimp [b1,hlt,h1])));(all_goals try with_reducible refine za ?_)
   exact ⟨_,rfl⟩
abbrev zwE:=List (ByteArray×GV)
def zf0:zwE→zwE→Bool
 |p::l,q::m=>decide (p.1=q.1) && eqP (zw p.2) (zw q.2) && zf0 l m
 | [],[]=>true
 |_,_=>false
theorem zmX:∀{l  m:zwE},l.length≠m.length→zf0 l m=false
 | [],[],h=>absurd rfl h
 | [],_::_,_=>rfl
 |_::_,[],_=>rfl
 |x::xs,y::ys,h=>by simp only [zf0];rw[zmX (by simpa using h)];simp
theorem zhy (k:Int)(s:ByteArray)(keys:List ByteArray)(l:List GV)(a b:Int)(c:Nat)(d:ByteArray)(e:List ByteArray)(f:List GV)(n:Int)(k':Int)(s':ByteArray)(keys':List ByteArray)(l':List GV)(a' b':Int)(c':Nat)(d':ByteArray)(e':List ByteArray)(f':List GV)(n':Int)(hk:keys.length*16≤140737488351232)(hl:l.length*88≤140737488351232)(hk':keys'.length*16≤140737488351232)(hl':l'.length*88≤140737488351232):
  ACalls prog 85 [evX k s keys l a b c d e f n,evX k' s' keys' l' a' b' c' d' e' f' n'] (fun r=>r=aV (.bool (zf0 (keys.zip l) (keys'.zip l')))):=by
 refine ze [(1,([],[(0,[]),(1,[]),(2,[]),(3,[]),(4,[]),(5,[]),(6,[]),(7,[]),(8,[]),(9,[]),(10,[]),(11,[]),(12,[]),(13,[]),(14,[]),(15,[])])),(7,([22],[(0,[]),(1,[]),(2,[]),(3,[]),(4,[]),(5,[]),(6,[]),(7,[]),(8,[]),(9,[]),(10,[]),(11,[]),(12,[]),(13,[]),(14,[]),(15,[]),(16,[]),(17,[]),(18,[]),(19,[]),(20,[]),(21,[]),(22,[]),(23,[]),(24,[])]))] func85 (by kernel_rfl) rfl ntmps85 results85 (Nat.le_of_ble_eq_true (by kernel_rfl)) ?_;intro hok w0 S0
 clear hok
 have b1:keys.length≤9223372036854775807:=by omega
 have b2:l.length≤9223372036854775807:=by omega
 have b3:keys'.length≤9223372036854775807:=by omega
 have b4:l'.length≤9223372036854775807:=by omega
 obtain ⟨m,hm⟩:∃m:Nat,m=min keys.length l.length:=⟨_,rfl⟩
 have hmin:min (keys.length:Int) (l.length:Int)=(m:Int):=by omega
 obtain ⟨m',hm'⟩:∃m':Nat,m'=min keys'.length l'.length:=⟨_,rfl⟩
 have hmin':min (keys'.length:Int) (l'.length:Int)=(m':Int):=by omega
 have z1:(keys.zip l).length=m:=by simp [hm]
 have z2:(keys'.zip l').length=m':=by simp [hm']
 (repeat' (first|(with_reducible first|refine zj (fun _=>?_) (fun _=>?_)|refine zi (fun _=>?_) (fun _=>?_)|refine zk zb (by kernel_rfl) ?_|exact za rfl)|(simp -dsimp [b1,b2,b3,b4,hmin,hmin'])));(all_goals try with_reducible refine za ?_)
 ·rename_i hn
  rw[zmX (by rw[z1,z2];intro e;rw[e] at hn;simp at hn)]
 rename_i hn
 have hmm:m=m':=by simp at hn;omega
 refine zC (fun i:Nat=>⟨[(2,.c (.own 2 0)),(3,.c (.own 3 0)),(5,aI m),(7,aI i)],[(3,.cells [.d (dI k'),.d (dS s'),.d (ZK keys'),.d (zat l'),.d (dI a'),.d (dI b'),.d (dF c'),.d (dS d'),.d (ZK e'),.d (zat f'),.d (dI n')] 29),(2,.cells [.d (dI k),.d (dS s),.d (ZK keys),.d (zat l),.d (dI a),.d (dI b),.d (dF c),.d (dS d),.d (ZK e),.d (zat f),.d (dI n)] 29)]⟩) (fun i=>i≤m∧zf0 (keys.zip l) (keys'.zip l')=zf0 ((keys.zip l).drop i) ((keys'.zip l').drop i)) (fun i=>m - i) 0 ?_ ⟨Nat.zero_le _,rfl⟩ ?_
 ·exact Weak.same (by simp -dsimp) (by simp -dsimp) (by first|rfl|(simp [zf,Av.ids,Ow.ids,Cl.ids,Go.Smd.keys];done))
 ·rintro i ⟨hi,heq⟩ K hK
  by_cases hlt:i<m
  ·have hw:IntKind.wrap .i64 ((i:Int)+1)=((i+1:Nat):Int):=by rw[zn]<;>omega
   have g1:i<keys.length:=by omega
   have g2:i<l.length:=by omega
   have g3:i<keys'.length:=by omega
   have g4:i<l'.length:=by omega
   have hcons:zf0 ((keys.zip l).drop i) ((keys'.zip l').drop i)=(decide (keys[i]=keys'[i]) && eqP (zw l[i]) (zw l'[i]) && zf0 ((keys.zip l).drop (i+1)) ((keys'.zip l').drop (i+1))):=by
    rw[List.drop_eq_getElem_cons (l:=keys.zip l) (i:=i) (by omega),List.drop_eq_getElem_cons (l:=keys'.zip l') (i:=i) (by omega)];simp [zf0]
   by_cases c1:keys[i]=keys'[i]
   ·cases c2:eqP (zw l[i]) (zw l'[i])
    ·(repeat' (first|(with_reducible first|refine zj (fun _=>?_) (fun _=>?_)|refine zi (fun _=>?_) (fun _=>?_)|refine zl (zav _ _) (by first|rfl|(simp -dsimp [b1,b2,b3,b4,hlt,hw,g1,g2,g3,g4,c1,c2,ZL];done)) ?_|refine zA (zav _ _) rfl (by first|rfl|(simp -dsimp [b1,b2,b3,b4,hlt,hw,g1,g2,g3,g4,c1,c2,ZL];done)) (by first|rfl|(simp -dsimp [b1,b2,b3,b4,hlt,hw,g1,g2,g3,g4,c1,c2,ZL];done)) ?_|refine zk zb (by kernel_rfl) ?_|exact za rfl)|(simp -dsimp [b1,b2,b3,b4,hlt,hw,g1,g2,g3,g4,c1,c2,ZL])));(all_goals try with_reducible refine za ?_)
     all_goals (rw[heq,hcons,c2];simp)
    ·(repeat' (first|(with_reducible first|refine zj (fun _=>?_) (fun _=>?_)|refine zi (fun _=>?_) (fun _=>?_)|refine zl (zav _ _) (by first|rfl|(simp -dsimp [b1,b2,b3,b4,hlt,hw,g1,g2,g3,g4,c1,c2,ZL];done)) ?_|refine zA (zav _ _) rfl (by first|rfl|(simp -dsimp [b1,b2,b3,b4,hlt,hw,g1,g2,g3,g4,c1,c2,ZL];done)) (by first|rfl|(simp -dsimp [b1,b2,b3,b4,hlt,hw,g1,g2,g3,g4,c1,c2,ZL];done)) ?_|refine zk zb (by kernel_rfl) ?_|exact za rfl)|(simp -dsimp [b1,b2,b3,b4,hlt,hw,g1,g2,g3,g4,c1,c2,ZL])));(all_goals try with_reducible refine za ?_)
     refine hK _ (i+1) ?_ ⟨by omega,by rw[heq,hcons,c2];simp [c1]⟩ (by omega)
     exact Weak.same (by simp -dsimp) (by simp -dsimp) (by first|rfl|(simp [zf,Av.ids,Ow.ids,Cl.ids,Go.Smd.keys];done))
   ·(repeat' (first|(with_reducible first|refine zj (fun _=>?_) (fun _=>?_)|refine zi (fun _=>?_) (fun _=>?_)|refine zl (zav _ _) (by first|rfl|(simp -dsimp [b1,b2,b3,b4,hlt,hw,g1,g2,g3,g4,c1,ZL];done)) ?_|refine zA (zav _ _) rfl (by first|rfl|(simp -dsimp [b1,b2,b3,b4,hlt,hw,g1,g2,g3,g4,c1,ZL];done)) (by first|rfl|(simp -dsimp [b1,b2,b3,b4,hlt,hw,g1,g2,g3,g4,c1,ZL];done)) ?_|refine zk zb (by kernel_rfl) ?_|exact za rfl)|(simp -dsimp [b1,b2,b3,b4,hlt,hw,g1,g2,g3,g4,c1,ZL])));(all_goals try with_reducible refine za ?_)
    all_goals (rw[heq,hcons];simp [c1])
  ·(repeat' (first|(with_reducible first|refine zj (fun _=>?_) (fun _=>?_)|refine zi (fun _=>?_) (fun _=>?_)|refine zk zb (by kernel_rfl) ?_|exact za rfl)|(simp -dsimp [hlt])));(all_goals try with_reducible refine za ?_)
   rw[heq,List.drop_eq_nil_of_le (by omega),List.drop_eq_nil_of_le (by omega)];rfl
def rkE (k:Int):Int:=if k=1∨k=2∨k=3 then k else 0
theorem zep (k:Int)(s:ByteArray)(keys:List ByteArray)(l:List GV)(a b:Int)(c:Nat)(d:ByteArray)(e:List ByteArray)(f:List GV)(n:Int):
  ACalls prog 84 [evX k s keys l a b c d e f n] (fun r=>r=aI (rkE k)):=by
 refine ze [] func84 (by kernel_rfl) rfl ntmps84 results84 (Nat.le_of_ble_eq_true (by kernel_rfl)) ?_;intro hok w0 S0
 clear hok
 (repeat' (first|(with_reducible first|refine zj (fun _=>?_) (fun _=>?_)|refine zi (fun _=>?_) (fun _=>?_)|refine zk zb (by kernel_rfl) ?_|exact za rfl)|(simp -dsimp)));(all_goals try with_reducible refine za ?_)
 all_goals simp_all [rkE]
def zjP (e e':EV):Bool:=if rkE e.k≠rkE e'.k then false else if rkE e.k=1 then zf0 (e.keys.zip e.l) (e'.keys.zip e'.l) else if rkE e.k=2 then eqP (zw e.v) (zw e'.v) else if rkE e.k=3 then decide (e.n=e'.n) else decide (e.s=e'.s)
theorem ze1 (k n:Int)(f:Nat)(s:ByteArray)(ks:List ByteArray)(l:List GV)(k' n':Int)(f':Nat)(s':ByteArray)(ks':List ByteArray)(l':List GV):ACalls prog 30 [gvX k n f s ks l,gvX k' n' f' s' ks' l'] (fun r=>r=aV (.bool (eqP (zw (.mk k n f s ks l)) (zw (.mk k' n' f' s' ks' l'))))):=by
 have h:=zav (.mk k n f s ks l) (.mk k' n' f' s' ks' l')
 rw[zci,zci] at h;exact h
theorem zjQ (k:Int)(s:ByteArray)(keys:List ByteArray)(l:List GV)(a b:Int)(c:Nat)(d:ByteArray)(e:List ByteArray)(f:List GV)(n:Int)(k':Int)(s':ByteArray)(keys':List ByteArray)(l':List GV)(a' b':Int)(c':Nat)(d':ByteArray)(e':List ByteArray)(f':List GV)(n':Int)(hk:keys.length*16≤140737488351232)(hl:l.length*88≤140737488351232)(hk':keys'.length*16≤140737488351232)(hl':l'.length*88≤140737488351232):
  ACalls prog 27 [evX k s keys l a b c d e f n,evX k' s' keys' l' a' b' c' d' e' f' n'] (fun r=>r=aV (.bool (zjP ⟨k,s,keys,l,.mk a b c d e f,n⟩ ⟨k',s',keys',l',.mk a' b' c' d' e' f',n'⟩))):=by
 refine ze [(1,([3],[(0,[]),(2,[]),(1,[]),(3,[]),(4,[])]))] func27 (by kernel_rfl) rfl ntmps27 results27 (Nat.le_of_ble_eq_true (by kernel_rfl)) ?_;intro hok w0 S0
 clear hok
 (repeat' (first|(with_reducible first|refine zj (fun _=>?_) (fun _=>?_)|refine zi (fun _=>?_) (fun _=>?_)|refine zl (zep _ _ _ _ _ _ _ _ _ _ _) (by first|rfl|(simp -dsimp;done)) ?_|refine zA (zep _ _ _ _ _ _ _ _ _ _ _) rfl (by first|rfl|(simp -dsimp;done)) (by first|rfl|(simp -dsimp;done)) ?_|refine zl (zhy _ _ _ _ _ _ _ _ _ _ _ _ _ _ _ _ _ _ _ _ _ _ hk hl hk' hl') (by first|rfl|(simp -dsimp;done)) ?_|refine zA (zhy _ _ _ _ _ _ _ _ _ _ _ _ _ _ _ _ _ _ _ _ _ _ hk hl hk' hl') rfl (by first|rfl|(simp -dsimp;done)) (by first|rfl|(simp -dsimp;done)) ?_|refine zl (ze1 _ _ _ _ _ _ _ _ _ _ _ _) (by first|rfl|(simp -dsimp;done)) ?_|refine zA (ze1 _ _ _ _ _ _ _ _ _ _ _ _) rfl (by first|rfl|(simp -dsimp;done)) (by first|rfl|(simp -dsimp;done)) ?_|refine zk zb (by kernel_rfl) ?_|exact za rfl)|(simp -dsimp)));(all_goals try with_reducible refine za ?_)
 all_goals simp_all [zjP]
theorem zfr (keys:List ByteArray)(l:List GV):zbL keys l=(keys.zip l).map fun p=>(p.1,zx p.2):=by
 unfold zbL
 rw[List.zip_map_right]
 rfl
structure FitsE (e:EV):Prop where
 items:∀x∈e.l,Zl (zx x)
 val:Zl (zx e.v)
theorem FitsE.zip {e:EV}(h:FitsE e):∀p∈e.keys.zip e.l,Zl (zx p.2):=fun p hp=>h.items _ (List.of_mem_zip hp).2
theorem FitsE.le {e:EV}(h:FitsE e):Z5 (zR e):=by
 unfold zR
 split
 ·simp only [Z5,zfr]
  intro p hp
  obtain ⟨q,hq,rfl⟩:=List.mem_map.1 hp
  exact h.zip q hq
 ·split
  ·exact h.val
  ·split<;>trivial
theorem zxW {e:EV}(h:okA prog (evA e)):e.keys.length*16≤140737488351232∧(∀k∈e.keys,k.size≤140737488351232)∧e.l.length*88≤140737488351232∧FitsE e:=by
 have h2:∀d∈evD e,okD prog d:=fun d hd=>zo2 h (.d d) (List.mem_map.2 ⟨d,hd,rfl⟩) d rfl
 have a1:=zlD (h2 (ZK e.keys) (by simp [evD]))
 have a2:=zsj (h2 (zat e.l) (by simp [evD]))
 refine ⟨a1.1,a1.2,a2.1,fun x hx=>zpc (a2.2 x hx),zpc ?_⟩
 obtain ⟨w,S,v,us,rfl,ha⟩:=h
 have hv:=((zgw.1 ha).drop 4).take 6
 have e1:((evD e).drop 4).take 6=gvD e.v:=by
  show (gvD e.v++ [dI e.n]).take 6=_
  rw[List.take_append_of_le_length (by simp),zsg]
 rw[e1] at hv
 exact zsi (fun d hd=>h2 d (by simp [evD,hd])) w S ⟨_,hv⟩
end Go.Smd
end
