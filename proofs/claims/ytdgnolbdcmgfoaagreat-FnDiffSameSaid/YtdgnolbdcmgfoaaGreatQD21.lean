/- Part 21. -/
import Derived.Test.YtdgnolbdcmgfoaaGreatQD20
set_option linter.unusedVariables false
set_option linter.unusedSimpArgs false
set_option maxRecDepth 100000
set_option maxHeartbeats 8000000
section
namespace Go.Smd
open Go.RowKit Go.Proofs Go.Proofs.Tryz
def asF (k n:Int)(f:Nat):Nat:=if k=2 then zi8 n else f
abbrev gvX (k n:Int)(f:Nat)(s:ByteArray)(ks:List ByteArray)(l:List GV):Av:=.agg [.d (dI k),.d (dI n),.d (dF f),.d (dS s),.d (ZS ks),.d (zaD l)]
theorem zdD (k n:Int)(f:Nat)(s:ByteArray)(ks:List ByteArray)(l:List GV):gvA (.mk k n f s ks l)=gvX k n f s ks l:=by simp only [gvA,zbx,zcC,zfQ]
theorem zpu (k n:Int)(f:Nat)(s:ByteArray)(ks:List ByteArray)(l:List GV):ACalls prog 144 [gvX k n f s ks l] (fun r=>r=aV (.float .f64 (asF k n f))):=by
 refine zf [] func144 (by kernel_rfl) rfl ntmps144 results144 (Nat.le_of_ble_eq_true (by kernel_rfl)) ?_;intro hok w0 S0
 clear hok
 (repeat' (first|(with_reducible first|refine zj (fun _=>?_) (fun _=>?_)|refine zi (fun _=>?_) (fun _=>?_)|refine zk zb (by kernel_rfl) ?_|exact za rfl)|(simp -dsimp [zat])));(all_goals try with_reducible refine za ?_)
 all_goals simp_all [asF]
structure EV where
 k:Int
 s:ByteArray
 keys:List ByteArray
 l:List GV
 v:GV
 n:Int
def evD (e:EV):List D:=[dI e.k,dS e.s,ZS e.keys,zaD e.l]++gvD e.v++ [dI e.n]
abbrev evA (e:EV):Av:=.agg (cls (evD e))
@[simp] theorem zvw (e:EV):(evD e).length=11:=by simp [evD]
@[simp] theorem zwF (e:EV):(evD e).take 11=evD e:=List.take_of_length_le (by simp)
@[simp] theorem zwd (e:EV):(cls (evD e)).take 11=cls (evD e):=List.take_of_length_le (by simp)
abbrev evX (k:Int)(s:ByteArray)(keys:List ByteArray)(l:List GV)(a b:Int)(c:Nat)(d:ByteArray)(e:List ByteArray)(f:List GV)(n:Int):Av:=
 .agg [.d (dI k),.d (dS s),.d (ZS keys),.d (zaD l),.d (dI a),.d (dI b),.d (dF c),.d (dS d),.d (ZS e),.d (zaD f),.d (dI n)]
theorem zdE (k:Int)(s:ByteArray)(keys:List ByteArray)(l:List GV)(a b:Int)(c:Nat)(d:ByteArray)(e:List ByteArray)(f:List GV)(n:Int):evA ⟨k,s,keys,l,.mk a b c d e f,n⟩=evX k s keys l a b c d e f n:=by
 simp only [evD,evA,zbx,List.cons_append,List.nil_append,zcC,zfQ]
@[simp] theorem zyM (e:EV):coL [none,none,some 9,some 27,none,none,none,none,some 9,some 27,none] (cls (evD e))=cls (evD e):=by
 obtain ⟨k,s,keys,l,⟨a,b,c,d,p,f⟩,n⟩:=e
 simp only [evD,zbx];rfl
structure EVk (e:EV):Prop where
 hk: -9223372036854775808≤e.k∧e.k≤9223372036854775807
 hkeys:e.keys.length*16≤140737488351232
 hl:e.l.length*88≤140737488351232
 hitem:∀x∈e.l,okA prog (gvA x)
 hv:okA prog (gvA e.v)
theorem zpv (k n:Int)(f:Nat)(s:ByteArray)(ks:List ByteArray)(l:List GV):ACalls prog 71 [gvX k n f s ks l] (fun r=>r= .c (.d (dV (Zb (.mk k n f s ks l))))):=by
 have h:=zjS (.mk k n f s ks l)
 rw[zdD] at h;exact h
abbrev Fds:=List (ByteArray×Tree)
def zbz (p:ByteArray×Tree):List D:=[dS p.1,dV p.2]
abbrev zja (l:Fds):D:=.sl 205 (l.map zbz)
def zcS (ks:List ByteArray)(l:List GV):Fds:=ks.zip (l.map Zb)
theorem zry (k:Int)(s:ByteArray)(keys:List ByteArray)(l:List GV)(a b:Int)(c:Nat)(d:ByteArray)(e:List ByteArray)(f:List GV)(n:Int)(hk:keys.length*16≤140737488351232)(hl:l.length*88≤140737488351232):
  ACalls prog 127 [evX k s keys l a b c d e f n] (fun r=>r= .c (.d (zja (zcS keys l)))):=by
 refine zf [] func127 (by kernel_rfl) rfl ntmps127 results127 (Nat.le_of_ble_eq_true (by kernel_rfl)) ?_;intro hok w0 S0
 clear hok
 have b1:keys.length≤9223372036854775807:=by omega
 have b2:l.length≤9223372036854775807:=by omega
 (repeat' (first|(with_reducible first|refine zj (fun _=>?_) (fun _=>?_)|refine zi (fun _=>?_) (fun _=>?_)|refine zk zb (by kernel_rfl) ?_|exact za rfl)|(simp -dsimp [b1,b2])));(all_goals try with_reducible refine za ?_)
 refine zF (fun i:Nat=>⟨[(1,.c (.own 1 0)),(3,.c (.gs 6 ((zcS keys l).take i).length)),(8,.c (.d (ZS keys))),(9,aV (.int .i64 keys.length)),(10,aV (.int .i64 i))],[(6,.arr ((zcS keys l).take i).length 205 (((zcS keys l).take i).map zbz)),
  (1,.cells [.d (dI k),.d (dS s),.d (ZS keys),.d (zaD l),.d (dI a),.d (dI b),.d (dF c),.d (dS d),.d (ZS e),.d (zaD f),.d (dI n)] 29)]⟩) (fun i=>i≤keys.length) (fun i=>keys.length - i) 0 ?_ (Nat.zero_le _) ?_
 ·exact Weak.same (by simp -dsimp [List.take_zero,List.length_nil,List.map_nil]) (by simp -dsimp [List.take_zero,List.length_nil,List.map_nil]) (by first|rfl|(simp [zg,Av.ids,Ow.ids,Cl.ids,Go.Smd.keys];done))
 ·rintro i hi K hK
  by_cases hlt:i<keys.length
  ·have hw:IntKind.wrap .i64 ((i:Int)+1)=((i+1:Nat):Int):=by rw[zq]<;>omega
   by_cases hl2:i<l.length
   ·have h1:((zcS keys l).take (i+1))=(zcS keys l).take i++ [(keys[i],Zb l[i])]:=by
     rw[List.take_succ_eq_append_getElem (by simp [zcS];omega)]
     simp [zcS]
    have h2:((zcS keys l).take i).length=i:=by simp [zcS];omega
    have hb:(min i (zcS keys l).length+1)*32≤140737488351232:=by omega
    rw[h2]
    (repeat' (first|(with_reducible first|refine zj (fun _=>?_) (fun _=>?_)|refine zi (fun _=>?_) (fun _=>?_)|refine zl (zjS _) (by first|rfl|(simp -dsimp [b1,b2,hlt,hl2,hw,h2,hb,zc];done)) ?_|refine zk zb (by kernel_rfl) ?_|exact za rfl)|(simp -dsimp [b1,b2,hlt,hl2,hw,h2,hb,zc])));(all_goals try with_reducible refine za ?_)
    refine hK _ (i+1) ?_ (by omega) (by omega)
    rw[h1]
    exact Weak.same (by simp -dsimp [h2,List.map_append,List.map_take,zbz]) (by simp -dsimp [h2,List.map_append,List.map_take,zbz]) (by first|rfl|(simp [zg,Av.ids,Ow.ids,Cl.ids,Go.Smd.keys];done))
   ·have h1:((zcS keys l).take (i+1))=(zcS keys l).take i:=by
     rw[List.take_of_length_le (by simp [zcS];omega),List.take_of_length_le (by simp [zcS];omega)]
    (repeat' (first|(with_reducible first|refine zj (fun _=>?_) (fun _=>?_)|refine zi (fun _=>?_) (fun _=>?_)|refine zk zb (by kernel_rfl) ?_|exact za rfl)|(simp -dsimp [b1,b2,hlt,hl2,hw])));(all_goals try with_reducible refine za ?_)
    refine hK _ (i+1) ?_ (by omega) (by omega)
    rw[h1]
    exact Weak.same (by simp -dsimp) (by simp -dsimp) (by first|rfl|(simp [zg,Av.ids,Ow.ids,Cl.ids,Go.Smd.keys];done))
  ·have h1:(zcS keys l).take i=zcS keys l:=List.take_of_length_le (by simp [zcS];omega)
   (repeat' (first|(with_reducible first|refine zj (fun _=>?_) (fun _=>?_)|refine zi (fun _=>?_) (fun _=>?_)|refine zk zb (by kernel_rfl) ?_|exact za rfl)|(simp -dsimp [hlt,h1])));(all_goals try with_reducible refine za ?_)
def zvx (op:BinOp)(q:Option (Option TypeId)):Option Av:=
 match op,q with
 | .eql,some (some _)=>some (.c (.d (.v (.bool false))))
 | .neq,some (some _)=>some (.c (.d (.v (.bool true))))
 |_,_=>none
@[simp ↓] theorem zwG {P:Program}{op:BinOp}{T:TypeId}{ox oy:Operand}{xs:List D}:ZH P op T ox oy (.c (.d (.pt xs))) (.c (.d (.v (.pointer none))))=zvx op (P.ptrT T):=by
 simp only [ZH,zvx,Go.Program.ptrT]
 cases h:P.underlying T with
 |none=>cases op<;>rfl
 |some d=>cases d<;>cases op<;>rfl
def _root_.Go.Program.isPtrT (P:Program)(T:TypeId):Bool:=match P.ptrT T with|some (some _)=>true|_=>false
theorem zjU {P:Program}{T:TypeId}(h:P.isPtrT T=true):zn P (Op.equal T (.pointer none) (.pointer none))=some true:=by
 obtain ⟨E,hu⟩:∃E,P.underlying T=some (.pointer E):=by
  unfold Go.Program.isPtrT Go.Program.ptrT at h
  cases hu:P.underlying T with
  |none=>rw[hu] at h;cases h
  |some d=>rw[hu] at h;cases d<;>first|exact ⟨_,rfl⟩|cases h
 show zn P (Op.equalIn (9999+1) T (.pointer none) (.pointer none))=_
 unfold Op.equalIn
 simp [underlying,program,bind,Sem.bind,zn,hu,pure]
theorem zis {P:Program}{g:Bool→Value}:∀{m:Sem Bool} {x:Bool},zn P m=some x→zn P (m.bind fun a=>Sem.pure (g a))=some (g x):=by
 intro m
 induction m with
 |pure a=>intro x h;simp [zn] at h;subst h;rfl
 |program k ih=>intro x h;exact ih P h
 |mark m k ih=>intro x h;exact ih h
 |_=>intro x h;simp [zn] at h
@[simp ↓] theorem zwH {P:Program}{T:TypeId}{ox oy:Operand}(h:P.isPtrT T=true):ZH P .eql T ox oy (.c (.d (.v (.pointer none)))) (.c (.d (.v (.pointer none))))=some (.c (.d (.v (.bool true)))):=by
 have:=zjU h
 simp [ZH,zH,eqGuard,binOp,pure,Sem.bind,bind,zn,z7]
 rw[zis (g:=fun b=>.bool b) this]
 rfl
@[simp ↓] theorem zwI {P:Program}{T:TypeId}{ox oy:Operand}(h:P.isPtrT T=true):ZH P .neq T ox oy (.c (.d (.v (.pointer none)))) (.c (.d (.v (.pointer none))))=some (.c (.d (.v (.bool false)))):=by
 have:=zjU h
 simp [ZH,zH,eqGuard,binOp,pure,Sem.bind,bind,zn,z7]
 rw[zis (g:=fun b=>.bool (!b)) this]
 rfl
attribute [simp] Go.Program.isPtrT
attribute [simp] zvx
inductive LE where
 |name (s:ByteArray)
 |key (l:Fds)
 |val (t:Tree)
 |idx (n:Int)
abbrev zhc:D:=.v (.pointer none)
abbrev leD:LE→List D
 | .name s=>[.pt [dS s],zhc,zhc,zhc]
 | .key l=>[zhc,.pt [zja l],zhc,zhc]
 | .val t=>[zhc,zhc,.pt [dV t],zhc]
 | .idx n=>[zhc,zhc,zhc,.pt [dI n]]
abbrev leA (p:LE):Av:=.agg (cls (leD p))
@[simp] theorem zvy (p:LE):(leD p).length=4:=by cases p<;>rfl
@[simp] theorem zwJ (p:LE):(leD p).take 4=leD p:=List.take_of_length_le (by simp)
@[simp] theorem zwe (p:LE):(cls (leD p)).take 4=cls (leD p):=List.take_of_length_le (by simp)
@[simp] theorem zyN (p:LE):coL [none,none,none,none] (cls (leD p))=cls (leD p):=by cases p<;>rfl
def zX (e:EV):LE:=if e.k=1 then .key (zcS e.keys e.l) else if e.k=2 then .val (Zb e.v) else if e.k=3 then .idx e.n else .name e.s
theorem zrz (k:Int)(s:ByteArray)(keys:List ByteArray)(l:List GV)(a b:Int)(c:Nat)(d:ByteArray)(e:List ByteArray)(f:List GV)(n:Int)(hk:keys.length*16≤140737488351232)(hl:l.length*88≤140737488351232):
  ACalls prog 70 [evX k s keys l a b c d e f n] (fun r=>r=leA (zX ⟨k,s,keys,l,.mk a b c d e f,n⟩)):=by
 refine zf [] func70 (by kernel_rfl) rfl ntmps70 results70 (Nat.le_of_ble_eq_true (by kernel_rfl)) ?_;intro hok w0 S0
 clear hok
 (repeat' (first|(with_reducible first|refine zj (fun _=>?_) (fun _=>?_)|refine zi (fun _=>?_) (fun _=>?_)|refine zl (zry _ _ _ _ _ _ _ _ _ _ _ hk hl) (by first|rfl|(simp -dsimp;done)) ?_|refine zl (zpv _ _ _ _ _ _) (by first|rfl|(simp -dsimp;done)) ?_|refine zk zb (by kernel_rfl) ?_|exact za rfl)|(simp -dsimp)));(all_goals try with_reducible refine za ?_)
 all_goals simp_all [zX,cls]
def ZR:LE→Prop
 | .key l=>∀p∈l,zaM p.2
 | .val t=>zaM t
 |_=>True
@[simp] theorem zxK:prog.isStr 9=true:=by kernel_rfl
theorem zbn (a b:Int):ACalls prog 122 [aI a,aI b] (fun r=>∃n,r=aI n):=by
 refine zf [] func122 (by kernel_rfl) rfl ntmps122 results122 (Nat.le_of_ble_eq_true (by kernel_rfl)) ?_;intro hok w0 S0
 clear hok
 (repeat' (first|(with_reducible first|refine zj (fun _=>?_) (fun _=>?_)|refine zi (fun _=>?_) (fun _=>?_)|refine zk zb (by kernel_rfl) ?_|exact za rfl)|(simp -dsimp)));(all_goals try with_reducible refine za ?_)
 all_goals exact ⟨_,rfl⟩
theorem zcr (b:UInt8):zH prog (convert 5 2 (.int .u8 b.toNat))=some (.c (.d (.v (.int .i64 b.toNat)))):=by
 have hb:=b.toNat_lt
 have h:zn prog (convert 5 2 (.int .u8 b.toNat))=some (.int .i64 b.toNat):=by
  have hw:IntKind.wrap .i64 (b.toNat:Int)=b.toNat:=by rw[zq]<;>omega
  simp [convert,underlying,program,bind,Sem.bind,zn,pure,Conv.intToInt,hw]
 unfold zH;rw[h];simp [z7,Z7];omega
theorem zdF (s t:ByteArray):ACalls prog 121 [aS s,aS t] (fun r=>∃n,r=aI n):=by
 refine zf [(4,([],[(0,[]),(1,[]),(2,[]),(3,[]),(4,[]),(5,[]),(6,[])])),(5,([8],[(0,[]),(1,[]),(2,[]),(3,[]),(4,[]),(5,[]),(6,[]),(7,[]),(8,[]),(9,[])]))] func121 (by kernel_rfl) rfl ntmps121 results121 (Nat.le_of_ble_eq_true (by kernel_rfl)) ?_;intro hok w0 S0
 have b1:=zeY (zn8 (hok (aS s) (by simp)))
 have b2:=zeY (zn8 (hok (aS t) (by simp)))
 clear hok
 (repeat' (first|(with_reducible first|refine zj (fun _=>?_) (fun _=>?_)|refine zi (fun _=>?_) (fun _=>?_)|refine zk zb (by kernel_rfl) ?_|exact za rfl)|(simp -dsimp)));(all_goals try with_reducible refine za ?_)
 refine zF (fun i:Nat=>⟨[(0,aS s),(1,aS t),(5,aI i)],[]⟩) (fun i=>i≤s.size) (fun i=>s.size - i) 0 ?_ (Nat.zero_le _) ?_
 ·exact Weak.same (by simp -dsimp) (by simp -dsimp) (by first|rfl|(simp [zg,Av.ids,Ow.ids,Cl.ids,Go.Smd.keys];done))
 ·rintro i hi K hK
  have hw:IntKind.wrap .i64 ((i:Int)+1)=((i+1:Nat):Int):=by rw[zq]<;>omega
  by_cases h1:i<s.size
  ·by_cases h2:i<t.size
   ·(repeat' (first|(with_reducible first|refine zj (fun _=>?_) (fun _=>?_)|refine zi (fun _=>?_) (fun _=>?_))|((with_reducible refine zkW (zbn _ _) (by first|rfl|(simp -dsimp [hw,h1,h2,zcr];done)) ?_);rintro _ ⟨x,rfl⟩ _)|((with_reducible refine zkX (zbn _ _) rfl (by first|rfl|(simp -dsimp [hw,h1,h2,zcr];done)) (by first|rfl|(simp -dsimp [hw,h1,h2,zcr];done)) ?_);rintro _ ⟨x,rfl⟩ _)|(with_reducible first|refine zk zb (by kernel_rfl) ?_|exact za rfl)|(simp -dsimp [hw,h1,h2,zcr])));(all_goals try with_reducible refine za ?_)
    ·exact ⟨_,rfl⟩
    ·refine hK _ (i+1) ?_ (by omega) (by omega)
     exact Weak.same (by simp -dsimp) (by simp -dsimp) (by first|rfl|(simp [zg,Av.ids,Ow.ids,Cl.ids,Go.Smd.keys];done))
   ·(repeat' (first|(with_reducible first|refine zj (fun _=>?_) (fun _=>?_)|refine zi (fun _=>?_) (fun _=>?_))|((with_reducible refine zkW (zbn _ _) (by first|rfl|(simp -dsimp [hw,h1,h2];done)) ?_);rintro _ ⟨x,rfl⟩ _)|((with_reducible refine zkX (zbn _ _) rfl (by first|rfl|(simp -dsimp [hw,h1,h2];done)) (by first|rfl|(simp -dsimp [hw,h1,h2];done)) ?_);rintro _ ⟨x,rfl⟩ _)|(with_reducible first|refine zk zb (by kernel_rfl) ?_|exact za rfl)|(simp -dsimp [hw,h1,h2])));(all_goals try with_reducible refine za ?_)
    all_goals exact ⟨_,rfl⟩
  ·(repeat' (first|(with_reducible first|refine zj (fun _=>?_) (fun _=>?_)|refine zi (fun _=>?_) (fun _=>?_))|((with_reducible refine zkW (zbn _ _) (by first|rfl|(simp -dsimp [hw,h1];done)) ?_);rintro _ ⟨x,rfl⟩ _)|((with_reducible refine zkX (zbn _ _) rfl (by first|rfl|(simp -dsimp [hw,h1];done)) (by first|rfl|(simp -dsimp [hw,h1];done)) ?_);rintro _ ⟨x,rfl⟩ _)|(with_reducible first|refine zk zb (by kernel_rfl) ?_|exact za rfl)|(simp -dsimp [hw,h1])));(all_goals try with_reducible refine za ?_)
   all_goals exact ⟨_,rfl⟩
theorem zgX (l:List GV)(hl:l.length*88≤140737488351232):ACalls prog 75 [.c (.d (zaD l))] (fun r=>r= .c (.d (zaD (l.map zL)))):=by
 refine zf [] func75 (by kernel_rfl) rfl ntmps75 results75 (Nat.le_of_ble_eq_true (by kernel_rfl)) ?_;intro hok w0 S0
 clear hok
 have b1:l.length≤9223372036854775807:=by omega
 have b2:88*l.length≤281474976710656:=by omega
 (repeat' (first|(with_reducible first|refine zj (fun _=>?_) (fun _=>?_)|refine zi (fun _=>?_) (fun _=>?_)|refine zk zb (by kernel_rfl) ?_|exact za rfl)|(simp -dsimp [b1,b2])));(all_goals try with_reducible refine za ?_)
 refine zF (fun i:Nat=>⟨[(3,.c (.gs 8 i)),(9,.c (.d (zaD l))),(10,aI l.length),(11,aI i)],[(8,.arr i 27 ((l.map (gvD∘zL)).take i))]⟩) (fun i=>i≤l.length) (fun i=>l.length - i) 0 ?_ (Nat.zero_le _) ?_
 ·exact Weak.same (by simp -dsimp) (by simp -dsimp) (by first|rfl|(simp [zg,Av.ids,Ow.ids,Cl.ids,Go.Smd.keys];done))
 ·rintro i hi K hK
  by_cases hlt:i<l.length
  ·have hw:IntKind.wrap .i64 ((i:Int)+1)=((i+1:Nat):Int):=by rw[zq]<;>omega
   have hb:(min i l.length+1)*88≤140737488351232:=by omega
   have h1:(l.map (gvD∘zL)).take (i+1)=(l.map (gvD∘zL)).take i++ [gvD (zL l[i])]:=by
    rw[List.take_succ_eq_append_getElem (by simpa using hlt)]
    simp
   (repeat' (first|(with_reducible first|refine zj (fun _=>?_) (fun _=>?_)|refine zi (fun _=>?_) (fun _=>?_)|refine zl (zfY _) (by first|rfl|(simp -dsimp [b1,hlt,hw,hb,zc];done)) ?_|refine zk zb (by kernel_rfl) ?_|exact za rfl)|(simp -dsimp [b1,hlt,hw,hb,zc])));(all_goals try with_reducible refine za ?_)
   refine hK _ (i+1) ?_ (by omega) (by omega)
   rw[h1]
   exact Weak.same (by simp -dsimp) (by simp -dsimp) (by first|rfl|(simp [zg,Av.ids,Ow.ids,Cl.ids,Go.Smd.keys];done))
  ·(repeat' (first|(with_reducible first|refine zj (fun _=>?_) (fun _=>?_)|refine zi (fun _=>?_) (fun _=>?_)|refine zk zb (by kernel_rfl) ?_|exact za rfl)|(simp -dsimp [hlt])));(all_goals try with_reducible refine za ?_)
   rw[List.take_of_length_le (by simp;omega)]
   show _=Av.c (.d (.sl _ ((l.map zL).map gvD)))
   rw[List.map_map]
theorem zgY (k:Int)(s:ByteArray)(keys:List ByteArray)(l:List GV)(a b:Int)(c:Nat)(d:ByteArray)(e:List ByteArray)(f:List GV)(n:Int)(hk:keys.length*16≤140737488351232)(hl:l.length*88≤140737488351232):
  ACalls prog 63 [evX k s keys l a b c d e f n] (fun r=>∃k s ks l a b c d e f n,r=evX k s ks l a b c d e f n∧ks.length*16≤140737488351232∧l.length*88≤140737488351232):=by
 refine zf [(4,([10],[(1,[]),(2,[]),(3,[]),(4,[]),(6,[]),(7,[]),(8,[]),(9,[]),(0,[]),(5,[]),(10,[]),(11,[]),(12,[])]))] func63 (by kernel_rfl) rfl ntmps63 results63 (Nat.le_of_ble_eq_true (by kernel_rfl)) ?_;intro hok w0 S0
 clear hok
 have b1:keys.length≤9223372036854775807:=by omega
 have b2:l.length≤9223372036854775807:=by omega
 have hc:=zfY (.mk a b c d e f)
 obtain ⟨a1,a2,a3,a4,a5,a6,hcl⟩:∃a1 a2 a3 a4 a5 a6,zL (.mk a b c d e f)= .mk a1 a2 a3 a4 a5 a6:=by cases zL (.mk a b c d e f);exact ⟨_,_,_,_,_,_,rfl⟩
 rw[hcl,zdD,zdD] at hc
 obtain ⟨m,hm⟩:∃m:Nat,m=min keys.length l.length:=⟨_,rfl⟩
 have hmin:min (keys.length:Int) (l.length:Int)=(m:Int):=by omega
 have hm1:m≤keys.length:=by omega
 have hm2:m≤l.length:=by omega
 have hp:=zgX (l.take m) (by simp;omega)
 rw[show zaD (l.take m)= .sl 27 ((l.map gvD).take m) by rw[zaD,List.map_take]] at hp
 have hr:m*16≤140737488351232:=by omega
 (repeat' (first|(with_reducible first|refine zj (fun _=>?_) (fun _=>?_)|refine zi (fun _=>?_) (fun _=>?_)|refine zl (hc) (by first|rfl|(simp -dsimp [b1,b2,zc,hmin,hm1,hm2,hr];done)) ?_|(refine zx (hc) rfl ?_ ?_ ?_;iterate 2 exact by first|rfl|(simp -dsimp [b1,b2,zc,hmin,hm1,hm2,hr];done))|refine zl (hp) (by first|rfl|(simp -dsimp [b1,b2,zc,hmin,hm1,hm2,hr];done)) ?_|(refine zx (hp) rfl ?_ ?_ ?_;iterate 2 exact by first|rfl|(simp -dsimp [b1,b2,zc,hmin,hm1,hm2,hr];done))|refine zk zb (by kernel_rfl) ?_|exact za rfl)|(simp -dsimp [b1,b2,zc,hmin,hm1,hm2,hr])));(all_goals try with_reducible refine za ?_)
 ·refine zd6 ⟨1,.empty,keys.take m,(l.take m).map zL,0,0,0,.empty,[],[],0,?_,by simp;omega,by simp;omega⟩
  simp only [evX,ZS,zaD,zag,List.map_take];rfl
 ·exact zd6 ⟨2,.empty,[],[],a1,a2,a3,a4,a5,a6,0,rfl,by simp,by simp⟩
 ·exact zd6 ⟨3,.empty,[],[],0,0,0,.empty,[],[],n,rfl,by simp,by simp⟩
 ·exact zd6 ⟨0,s,[],[],0,0,0,.empty,[],[],0,rfl,by simp,by simp⟩
theorem zme (k:Int)(s:ByteArray)(keys:List ByteArray)(l:List GV)(a b:Int)(c:Nat)(d:ByteArray)(e:List ByteArray)(f:List GV)(n:Int)(hk:keys.length*16≤140737488351232)(hl:l.length*88≤140737488351232):
  ACalls prog 66 [evX k s keys l a b c d e f n] (fun r=>∃b,r=aV (.bool b)):=by
 refine zf [(5,([11],[(0,[]),(1,[]),(2,[]),(3,[]),(4,[]),(5,[]),(6,[]),(7,[]),(8,[]),(9,[]),(10,[]),(11,[]),(12,[])]))] func66 (by kernel_rfl) rfl ntmps66 results66 (Nat.le_of_ble_eq_true (by kernel_rfl)) ?_;intro hok w0 S0
 clear hok
 (repeat' (first|(with_reducible first|refine zj (fun _=>?_) (fun _=>?_)|refine zi (fun _=>?_) (fun _=>?_))|((with_reducible refine zkW (zgY _ _ _ _ _ _ _ _ _ _ _ hk hl) (by first|rfl|(simp -dsimp;done)) ?_);rintro _ ⟨k2,s2,ks2,l2,a2,b2,c2,d2,e2,f2,n2,rfl,hk2,hl2⟩ _)|((with_reducible refine zkX (zgY _ _ _ _ _ _ _ _ _ _ _ hk hl) rfl (by first|rfl|(simp -dsimp;done)) (by first|rfl|(simp -dsimp;done)) ?_);rintro _ ⟨k2,s2,ks2,l2,a2,b2,c2,d2,e2,f2,n2,rfl,hk2,hl2⟩ _)|(with_reducible first|refine zk zb (by kernel_rfl) ?_|exact za rfl)|(simp -dsimp)));(all_goals try with_reducible refine za ?_)
 refine zF (fun i:Nat=>⟨[(1,.c (.own 1 0)),(3,aI (i+1))],[(1,.cells [.d (dI k2),.d (dS s2),.d (ZS ks2),.d (zaD l2),.d (dI a2),.d (dI b2),.d (dF c2),.d (dS d2),.d (ZS e2),.d (zaD f2),.d (dI n2)] 29)]⟩) (fun i=>i≤ks2.length) (fun i=>ks2.length - i) 0 ?_ (Nat.zero_le _) ?_
 ·exact Weak.same (by simp -dsimp) (by simp -dsimp) (by first|rfl|(simp [zg,Av.ids,Ow.ids,Cl.ids,Go.Smd.keys];done))
 ·rintro i hi K hK
  have b1:ks2.length≤9223372036854775807:=by omega
  by_cases hlt:i+1<ks2.length
  ·have hw:IntKind.wrap .i64 ((i:Int)+1+1)=(i:Int)+1+1:=by rw[zq]<;>omega
   have hw2:IntKind.wrap .i64 (i:Int)=(i:Int):=by rw[zq]<;>omega
   have h0:i<ks2.length:=by omega
   have h1:(i:Int)+1<ks2.length:=by omega
   have h2:(0:Int)≤i+1:=by omega
   have h3:((i:Int)+1).toNat=i+1:=by omega
   (repeat' (first|(with_reducible first|refine zj (fun _=>?_) (fun _=>?_)|refine zi (fun _=>?_) (fun _=>?_))|((with_reducible refine zkW (zdF _ _) (by first|rfl|(simp -dsimp [b1,hlt,hw,hw2,h0,h1,h2,h3,zag];done)) ?_);rintro _ ⟨x,rfl⟩ _)|((with_reducible refine zkX (zdF _ _) rfl (by first|rfl|(simp -dsimp [b1,hlt,hw,hw2,h0,h1,h2,h3,zag];done)) (by first|rfl|(simp -dsimp [b1,hlt,hw,hw2,h0,h1,h2,h3,zag];done)) ?_);rintro _ ⟨x,rfl⟩ _)|(with_reducible first|refine zk zb (by kernel_rfl) ?_|exact za rfl)|(simp -dsimp [b1,hlt,hw,hw2,h0,h1,h2,h3,zag])));(all_goals try with_reducible refine za ?_)
   ·exact ⟨_,rfl⟩
   ·refine hK _ (i+1) ?_ (by omega) (by omega)
    exact Weak.same (by simp -dsimp) (by simp -dsimp) (by first|rfl|(simp [zg,Av.ids,Ow.ids,Cl.ids,Go.Smd.keys];done))
  ·have h1:¬((i:Int)+1<ks2.length):=by omega
   (repeat' (first|(with_reducible first|refine zj (fun _=>?_) (fun _=>?_)|refine zi (fun _=>?_) (fun _=>?_)|refine zk zb (by kernel_rfl) ?_|exact za rfl)|(simp -dsimp [b1,hlt,h1])));(all_goals try with_reducible refine za ?_)
   exact ⟨_,rfl⟩
def rkE (k:Int):Int:=if k=1∨k=2∨k=3 then k else 0
theorem zit (k:Int)(s:ByteArray)(keys:List ByteArray)(l:List GV)(a b:Int)(c:Nat)(d:ByteArray)(e:List ByteArray)(f:List GV)(n:Int):
  ACalls prog 84 [evX k s keys l a b c d e f n] (fun r=>r=aI (rkE k)):=by
 refine zf [] func84 (by kernel_rfl) rfl ntmps84 results84 (Nat.le_of_ble_eq_true (by kernel_rfl)) ?_;intro hok w0 S0
 clear hok
 (repeat' (first|(with_reducible first|refine zj (fun _=>?_) (fun _=>?_)|refine zi (fun _=>?_) (fun _=>?_)|refine zk zb (by kernel_rfl) ?_|exact za rfl)|(simp -dsimp)));(all_goals try with_reducible refine za ?_)
 all_goals simp_all [rkE]
theorem zk8 (keys:List ByteArray)(l:List GV):zcS keys l=(keys.zip l).map fun p=>(p.1,Zb p.2):=by
 unfold zcS
 rw[List.zip_map_right]
 rfl
structure FitsE (e:EV):Prop where
 items:∀x∈e.l,zaM (Zb x)
 val:zaM (Zb e.v)
theorem FitsE.zip {e:EV}(h:FitsE e):∀p∈e.keys.zip e.l,zaM (Zb p.2):=fun p hp=>h.items _ (List.of_mem_zip hp).2
theorem FitsE.le {e:EV}(h:FitsE e):ZR (zX e):=by
 unfold zX
 split
 ·simp only [ZR,zk8]
  intro p hp
  obtain ⟨q,hq,rfl⟩:=List.mem_map.1 hp
  exact h.zip q hq
 ·split
  ·exact h.val
  ·split<;>trivial
theorem zwK {e:EV}(h:okA prog (evA e)):e.keys.length*16≤140737488351232∧(∀k∈e.keys,k.size≤140737488351232)∧e.l.length*88≤140737488351232∧FitsE e:=by
 have h2:∀d∈evD e,okD prog d:=fun d hd=>zkP h (.d d) (List.mem_map.2 ⟨d,hd,rfl⟩) d rfl
 have a1:=zkZ (h2 (ZS e.keys) (by simp [evD]))
 have a2:=zrd (h2 (zaD e.l) (by simp [evD]))
 refine ⟨a1.1,a1.2,a2.1,fun x hx=>zoj (a2.2 x hx),zoj ?_⟩
 obtain ⟨w,S,v,us,rfl,ha⟩:=h
 have hv:=((zfX.1 ha).drop 4).take 6
 have e1:((evD e).drop 4).take 6=gvD e.v:=by
  show (gvD e.v++ [dI e.n]).take 6=_
  rw[List.take_append_of_le_length (by simp),zra]
 rw[e1] at hv
 exact zrc (fun d hd=>h2 d (by simp [evD,hd])) w S ⟨_,hv⟩
end Go.Smd
end
