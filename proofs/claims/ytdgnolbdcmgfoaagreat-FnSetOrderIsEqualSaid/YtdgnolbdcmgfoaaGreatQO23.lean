/- Part 23 of the proof: El. -/
import Derived.Test.YtdgnolbdcmgfoaaGreatQO22
set_option linter.unusedVariables false
set_option linter.unusedSimpArgs false
set_option maxRecDepth 100000
set_option maxHeartbeats 8000000
section
namespace Go.Smd
open Go.RowKit Go.Proofs Go.Proofs.Tryz
structure EV where
 k:Int
 s:ByteArray
 keys:List ByteArray
 l:List GV
 v:GV
 n:Int
def evD (e:EV):List D:=[dI e.k,dS e.s,zav e.keys,zbI e.l]++gvD e.v++ [dI e.n]
abbrev evA (e:EV):Av:=.agg (cls (evD e))
@[simp] theorem zvp (e:EV):(evD e).length=11:=by simp [evD]
@[simp] theorem zwB (e:EV):(evD e).take 11=evD e:=List.take_of_length_le (by simp)
@[simp] theorem zv6 (e:EV):(cls (evD e)).take 11=cls (evD e):=List.take_of_length_le (by simp)
abbrev evX (k:Int)(s:ByteArray)(keys:List ByteArray)(l:List GV)(a b:Int)(c:Nat)(d:ByteArray)(e:List ByteArray)(f:List GV)(n:Int):Av:=
 .agg [.d (dI k),.d (dS s),.d (zav keys),.d (zbI l),.d (dI a),.d (dI b),.d (dF c),.d (dS d),.d (zav e),.d (zbI f),.d (dI n)]
theorem zeO (k:Int)(s:ByteArray)(keys:List ByteArray)(l:List GV)(a b:Int)(c:Nat)(d:ByteArray)(e:List ByteArray)(f:List GV)(n:Int):evA ⟨k,s,keys,l,.mk a b c d e f,n⟩=evX k s keys l a b c d e f n:=by
 simp only [evD,evA,zaa,List.cons_append,List.nil_append,ZS,zaW]
@[simp] theorem zyG (e:EV):coL [none,none,some 9,some 27,none,none,none,none,some 9,some 27,none] (cls (evD e))=cls (evD e):=by
 obtain ⟨k,s,keys,l,⟨a,b,c,d,p,f⟩,n⟩:=e
 simp only [evD,zaa];rfl
structure EVk (e:EV):Prop where
 hk: -9223372036854775808≤e.k∧e.k≤9223372036854775807
 hkeys:e.keys.length*16≤140737488351232
 hl:e.l.length*88≤140737488351232
 hitem:∀x∈e.l,okA prog (gvA x)
 hv:okA prog (gvA e.v)
theorem zpI (k n:Int)(f:Nat)(s:ByteArray)(ks:List ByteArray)(l:List GV):ACalls prog 71 [gvX k n f s ks l] (fun r=>r= .c (.d (dV (zp (.mk k n f s ks l))))):=by
 have h:=zkc (.mk k n f s ks l)
 rw[zdM] at h;exact h
abbrev Fds:=List (ByteArray×Tree)
def zaN (p:ByteArray×Tree):List D:=[dS p.1,dV p.2]
abbrev zfm (l:Fds):D:=.sl 205 (l.map zaN)
def zb0 (ks:List ByteArray)(l:List GV):Fds:=ks.zip (l.map zp)
theorem zrJ (k:Int)(s:ByteArray)(keys:List ByteArray)(l:List GV)(a b:Int)(c:Nat)(d:ByteArray)(e:List ByteArray)(f:List GV)(n:Int)(hk:keys.length*16≤140737488351232)(hl:l.length*88≤140737488351232):
  ACalls prog 127 [evX k s keys l a b c d e f n] (fun r=>r= .c (.d (zfm (zb0 keys l)))):=by
 refine zg [] func127 (by kernel_rfl) rfl ntmps127 results127 (Nat.le_of_ble_eq_true (by kernel_rfl)) ?_;intro hok w0 S0
 clear hok
 have b1:keys.length≤9223372036854775807:=by omega
 have b2:l.length≤9223372036854775807:=by omega
 (repeat' (first|(with_reducible first|refine zl (fun _=>?_) (fun _=>?_)|refine zk (fun _=>?_) (fun _=>?_)|refine zm zd (by kernel_rfl) ?_|exact zc rfl)|(simp -dsimp [b1,b2])));(all_goals try with_reducible refine zc ?_)
 refine zJ (fun i:Nat=>⟨[(1,.c (.own 1 0)),(3,.c (.gs 6 ((zb0 keys l).take i).length)),(8,.c (.d (zav keys))),(9,aV (.int .i64 keys.length)),(10,aV (.int .i64 i))],[(6,.arr ((zb0 keys l).take i).length 205 (((zb0 keys l).take i).map zaN)),
  (1,.cells [.d (dI k),.d (dS s),.d (zav keys),.d (zbI l),.d (dI a),.d (dI b),.d (dF c),.d (dS d),.d (zav e),.d (zbI f),.d (dI n)] 29)]⟩) (fun i=>i≤keys.length) (fun i=>keys.length - i) 0 ?_ (Nat.zero_le _) ?_
 ·exact Weak.same (by simp -dsimp [List.take_zero,List.length_nil,List.map_nil]) (by simp -dsimp [List.take_zero,List.length_nil,List.map_nil]) (by first|rfl|(simp [zj,Av.ids,Ow.ids,Cl.ids,Go.Smd.keys];done))
 ·rintro i hi K hK
  by_cases hlt:i<keys.length
  ·have hw:IntKind.wrap .i64 ((i:Int)+1)=((i+1:Nat):Int):=by rw[zy]<;>omega
   by_cases hl2:i<l.length
   ·have h1:((zb0 keys l).take (i+1))=(zb0 keys l).take i++ [(keys[i],zp l[i])]:=by
     rw[List.take_succ_eq_append_getElem (by simp [zb0];omega)]
     simp [zb0]
    have h2:((zb0 keys l).take i).length=i:=by simp [zb0];omega
    have hb:(min i (zb0 keys l).length+1)*32≤140737488351232:=by omega
    rw[h2]
    (repeat' (first|(with_reducible first|refine zl (fun _=>?_) (fun _=>?_)|refine zk (fun _=>?_) (fun _=>?_)|refine zt (zkc _) (by first|rfl|(simp -dsimp [b1,b2,hlt,hl2,hw,h2,hb,zf];done)) ?_|refine zm zd (by kernel_rfl) ?_|exact zc rfl)|(simp -dsimp [b1,b2,hlt,hl2,hw,h2,hb,zf])));(all_goals try with_reducible refine zc ?_)
    refine hK _ (i+1) ?_ (by omega) (by omega)
    rw[h1]
    exact Weak.same (by simp -dsimp [h2,List.map_append,List.map_take,zaN]) (by simp -dsimp [h2,List.map_append,List.map_take,zaN]) (by first|rfl|(simp [zj,Av.ids,Ow.ids,Cl.ids,Go.Smd.keys];done))
   ·have h1:((zb0 keys l).take (i+1))=(zb0 keys l).take i:=by
     rw[List.take_of_length_le (by simp [zb0];omega),List.take_of_length_le (by simp [zb0];omega)]
    (repeat' (first|(with_reducible first|refine zl (fun _=>?_) (fun _=>?_)|refine zk (fun _=>?_) (fun _=>?_)|refine zm zd (by kernel_rfl) ?_|exact zc rfl)|(simp -dsimp [b1,b2,hlt,hl2,hw])));(all_goals try with_reducible refine zc ?_)
    refine hK _ (i+1) ?_ (by omega) (by omega)
    rw[h1]
    exact Weak.same (by simp -dsimp) (by simp -dsimp) (by first|rfl|(simp [zj,Av.ids,Ow.ids,Cl.ids,Go.Smd.keys];done))
  ·have h1:(zb0 keys l).take i=zb0 keys l:=List.take_of_length_le (by simp [zb0];omega)
   (repeat' (first|(with_reducible first|refine zl (fun _=>?_) (fun _=>?_)|refine zk (fun _=>?_) (fun _=>?_)|refine zm zd (by kernel_rfl) ?_|exact zc rfl)|(simp -dsimp [hlt,h1])));(all_goals try with_reducible refine zc ?_)
def zvq (op:BinOp)(q:Option (Option TypeId)):Option Av:=
 match op,q with
 | .eql,some (some _)=>some (.c (.d (.v (.bool false))))
 | .neq,some (some _)=>some (.c (.d (.v (.bool true))))
 |_,_=>none
@[simp ↓] theorem zwC {P:Program}{op:BinOp}{T:TypeId}{ox oy:Operand}{xs:List D}:Z0 P op T ox oy (.c (.d (.pt xs))) (.c (.d (.v (.pointer none))))=zvq op (P.ptrT T):=by
 simp only [Z0,zvq,Go.Program.ptrT]
 cases h:P.underlying T with
 |none=>cases op<;>rfl
 |some d=>cases d<;>cases op<;>rfl
def _root_.Go.Program.isPtrT (P:Program)(T:TypeId):Bool:=match P.ptrT T with|some (some _)=>true|_=>false
theorem zkg {P:Program}{T:TypeId}(h:P.isPtrT T=true):zn P (Op.equal T (.pointer none) (.pointer none))=some true:=by
 obtain ⟨E,hu⟩:∃E,P.underlying T=some (.pointer E):=by
  unfold Go.Program.isPtrT Go.Program.ptrT at h
  cases hu:P.underlying T with
  |none=>rw[hu] at h;cases h
  |some d=>rw[hu] at h;cases d<;>first|exact ⟨_,rfl⟩|cases h
 show zn P (Op.equalIn (9999+1) T (.pointer none) (.pointer none))=_
 unfold Op.equalIn
 simp [underlying,program,bind,Sem.bind,zn,hu,pure]
theorem ziM {P:Program}{g:Bool→Value}:∀{m:Sem Bool} {x:Bool},zn P m=some x→zn P (m.bind fun a=>Sem.pure (g a))=some (g x):=by
 intro m
 induction m with
 |pure a=>intro x h;simp [zn] at h;subst h;rfl
 |program k ih=>intro x h;exact ih P h
 |mark m k ih=>intro x h;exact ih h
 |_=>intro x h;simp [zn] at h
@[simp ↓] theorem zwD {P:Program}{T:TypeId}{ox oy:Operand}(h:P.isPtrT T=true):Z0 P .eql T ox oy (.c (.d (.v (.pointer none)))) (.c (.d (.v (.pointer none))))=some (.c (.d (.v (.bool true)))):=by
 have:=zkg h
 simp [Z0,zO,eqGuard,binOp,pure,Sem.bind,bind,zn,Zj]
 rw[ziM (g:=fun b=>.bool b) this]
 rfl
@[simp ↓] theorem zwE {P:Program}{T:TypeId}{ox oy:Operand}(h:P.isPtrT T=true):Z0 P .neq T ox oy (.c (.d (.v (.pointer none)))) (.c (.d (.v (.pointer none))))=some (.c (.d (.v (.bool false)))):=by
 have:=zkg h
 simp [Z0,zO,eqGuard,binOp,pure,Sem.bind,bind,zn,Zj]
 rw[ziM (g:=fun b=>.bool (!b)) this]
 rfl
attribute [simp] Go.Program.isPtrT
attribute [simp] zvq
inductive LE where
 |name (s:ByteArray)
 |key (l:Fds)
 |val (t:Tree)
 |idx (n:Int)
abbrev zhv:D:=.v (.pointer none)
abbrev leD:LE→List D
 | .name s=>[.pt [dS s],zhv,zhv,zhv]
 | .key l=>[zhv,.pt [zfm l],zhv,zhv]
 | .val t=>[zhv,zhv,.pt [dV t],zhv]
 | .idx n=>[zhv,zhv,zhv,.pt [dI n]]
abbrev leA (p:LE):Av:=.agg (cls (leD p))
@[simp] theorem zvr (p:LE):(leD p).length=4:=by cases p<;>rfl
@[simp] theorem zwF (p:LE):(leD p).take 4=leD p:=List.take_of_length_le (by simp)
@[simp] theorem zv7 (p:LE):(cls (leD p)).take 4=cls (leD p):=List.take_of_length_le (by simp)
@[simp] theorem zyH (p:LE):coL [none,none,none,none] (cls (leD p))=cls (leD p):=by cases p<;>rfl
def z9 (e:EV):LE:=if e.k=1 then .key (zb0 e.keys e.l) else if e.k=2 then .val (zp e.v) else if e.k=3 then .idx e.n else .name e.s
theorem zrK (k:Int)(s:ByteArray)(keys:List ByteArray)(l:List GV)(a b:Int)(c:Nat)(d:ByteArray)(e:List ByteArray)(f:List GV)(n:Int)(hk:keys.length*16≤140737488351232)(hl:l.length*88≤140737488351232):
  ACalls prog 70 [evX k s keys l a b c d e f n] (fun r=>r=leA (z9 ⟨k,s,keys,l,.mk a b c d e f,n⟩)):=by
 refine zg [] func70 (by kernel_rfl) rfl ntmps70 results70 (Nat.le_of_ble_eq_true (by kernel_rfl)) ?_;intro hok w0 S0
 clear hok
 (repeat' (first|(with_reducible first|refine zl (fun _=>?_) (fun _=>?_)|refine zk (fun _=>?_) (fun _=>?_)|refine zt (zrJ _ _ _ _ _ _ _ _ _ _ _ hk hl) (by first|rfl|(simp -dsimp;done)) ?_|refine zt (zpI _ _ _ _ _ _) (by first|rfl|(simp -dsimp;done)) ?_|refine zm zd (by kernel_rfl) ?_|exact zc rfl)|(simp -dsimp)));(all_goals try with_reducible refine zc ?_)
 all_goals simp_all [z9,cls]
def zeP:Fds→Fds→Bool
 |p::l,q::m=>decide (p.1=q.1) && eqV p.2 q.2 && zeP l m
 | [],[]=>true
 |_,_=>false
theorem zkh:∀{l m:Fds},l.length≠m.length→zeP l m=false
 | [],[],h=>absurd rfl h
 | [],_::_,_=>rfl
 |_::_,[],_=>rfl
 |x::xs,y::ys,h=>by simp only [zeP];rw[zkh (by simpa using h)];simp
theorem zeQ (l m:Fds)(hl:∀p∈l,z8 p.2)(hm:∀p∈m,z8 p.2):
  ACalls prog 205 [.c (.d (zfm l)),.c (.d (zfm m))] (fun r=>r=aV (.bool (zeP l m))):=by
 refine zg [(6,([],[(0,[]),(1,[]),(2,[]),(3,[]),(4,[]),(5,[]),(6,[]),(7,[]),(8,[]),(9,[]),(10,[])])),(8,([10],[(0,[]),(1,[]),(2,[]),(3,[]),(4,[]),(5,[]),(6,[]),(7,[]),(8,[]),(9,[]),(10,[]),(11,[])]))] func205 (by kernel_rfl) rfl ntmps205 results205 (Nat.le_of_ble_eq_true (by kernel_rfl)) ?_;intro hok w0 S0
 have b1:l.length*32≤140737488351232:=by have:=(zeE (hok (.c (.d (zfm l))) (by simp))).1;simpa using this
 have b2:m.length*32≤140737488351232:=by have:=(zeE (hok (.c (.d (zfm m))) (by simp))).1;simpa using this
 clear hok
 have b3:l.length≤9223372036854775807:=by omega
 have b4:m.length≤9223372036854775807:=by omega
 (repeat' (first|(with_reducible first|refine zl (fun _=>?_) (fun _=>?_)|refine zk (fun _=>?_) (fun _=>?_)|refine zm zd (by kernel_rfl) ?_|exact zc rfl)|(simp -dsimp [b3,b4])));(all_goals try with_reducible refine zc ?_)
 ·rename_i hn
  rw[zkh (l:=l) (m:=m) (by intro e;rw[e] at hn;simp at hn)]
 ·rename_i hn
  have hlen:l.length=m.length:=by simp at hn;omega
  refine zJ (fun i:Nat=>⟨[(0,.c (.d (zfm l))),(1,.c (.d (zfm m))),(12,aV (.int .i64 l.length)),(13,aV (.int .i64 i))],[]⟩) (fun i=>i≤l.length∧zeP l m=zeP (l.drop i) (m.drop i)) (fun i=>l.length - i) 0 ?_ ⟨Nat.zero_le _,rfl⟩ ?_
  ·exact Weak.same (by simp -dsimp) (by simp -dsimp) (by first|rfl|(simp [zj,Av.ids,Ow.ids,Cl.ids,Go.Smd.keys];done))
  ·rintro i ⟨hi,heq⟩ K hK
   by_cases hlt:i<l.length
   ·have hlt':i<m.length:=by omega
    have hw:IntKind.wrap .i64 ((i:Int)+1)=((i+1:Nat):Int):=by rw[zy]<;>omega
    have hcons:zeP (l.drop i) (m.drop i)=(decide (l[i].1=m[i].1) && eqV l[i].2 m[i].2 && zeP (l.drop (i+1)) (m.drop (i+1))):=by rw[List.drop_eq_getElem_cons hlt,List.drop_eq_getElem_cons hlt'];rfl
    (repeat' (first|(with_reducible first|refine zl (fun _=>?_) (fun _=>?_)|refine zk (fun _=>?_) (fun _=>?_)|refine zt (zfg _ _ (hl _ (List.getElem_mem hlt)) (hm _ (List.getElem_mem hlt'))) (by first|rfl|(simp -dsimp [b3,b4,hlt,hlt',hw,zaN];done)) ?_|refine Zu (zfg _ _ (hl _ (List.getElem_mem hlt)) (hm _ (List.getElem_mem hlt'))) rfl (by first|rfl|(simp -dsimp [b3,b4,hlt,hlt',hw,zaN];done)) (by first|rfl|(simp -dsimp [b3,b4,hlt,hlt',hw,zaN];done)) ?_|refine zm zd (by kernel_rfl) ?_|exact zc rfl)|(simp -dsimp [b3,b4,hlt,hlt',hw,zaN])));(all_goals try with_reducible refine zc ?_)
    ·rename_i hn
     have hn:decide (l[i].1=m[i].1)=false:=by simpa using hn
     rw[heq,hcons,hn];rfl
    ·rename_i h1 hn
     have h1:decide (l[i].1=m[i].1)=true:=by simpa using h1
     have hn:eqV l[i].2 m[i].2=false:=by simpa using hn
     rw[heq,hcons,h1,hn];rfl
    ·rename_i h1 hn
     have h1:decide (l[i].1=m[i].1)=true:=by simpa using h1
     have hn:eqV l[i].2 m[i].2=true:=by simpa using hn
     refine hK _ (i+1) ?_ ⟨by omega,by rw[heq,hcons,h1,hn];rfl⟩ (by omega)
     exact Weak.same (by simp -dsimp) (by simp -dsimp) (by first|rfl|(simp [zj,Av.ids,Ow.ids,Cl.ids,Go.Smd.keys];done))
   ·(repeat' (first|(with_reducible first|refine zl (fun _=>?_) (fun _=>?_)|refine zk (fun _=>?_) (fun _=>?_)|refine zm zd (by kernel_rfl) ?_|exact zc rfl)|(simp -dsimp [b3,hlt])));(all_goals try with_reducible refine zc ?_)
    rw[heq,List.drop_eq_nil_of_le (by omega),List.drop_eq_nil_of_le (by omega)];rfl
def zfO:LE→LE→Bool
 | .name s,.name s'=>decide (s=s')
 | .key l,.key m=>zeP l m
 | .val t,.val u=>eqV t u
 | .idx n,.idx n'=>decide (n=n')
 |_,_=>false
def zas:LE→Prop
 | .key l=>∀p∈l,z8 p.2
 | .val t=>z8 t
 |_=>True
theorem zgl (p q:LE)(hp:zas p)(hq:zas q):ACalls prog 170 [leA p,leA q] (fun r=>r=aV (.bool (zfO p q))):=by
 cases p<;>cases q
 all_goals
  simp only [zas] at hp hq
  refine zg [(4,([],[(0,[]),(1,[]),(2,[]),(3,[]),(4,[]),(5,[]),(6,[]),(7,[]),(8,[]),(9,[])])),(10,([8],[(0,[]),(1,[]),(2,[]),(3,[]),(4,[]),(5,[]),(6,[]),(7,[]),(8,[]),(9,[])])),(16,([8],[(0,[]),(1,[]),(2,[]),(3,[]),(4,[]),(5,[]),(6,[]),(7,[]),(8,[]),(9,[])])),(22,([],[(0,[]),(1,[]),(2,[]),(3,[]),(4,[]),(5,[]),(6,[]),(7,[]),(8,[]),(9,[])]))] func170 (by kernel_rfl) rfl ntmps170 results170 (Nat.le_of_ble_eq_true (by kernel_rfl)) ?_;intro hok w0 S0
  clear hok
  (repeat' (first|(with_reducible first|refine zl (fun _=>?_) (fun _=>?_)|refine zk (fun _=>?_) (fun _=>?_)|refine zt (zeQ _ _ hp hq) (by first|rfl|(simp -dsimp;done)) ?_|refine Zu (zeQ _ _ hp hq) rfl (by first|rfl|(simp -dsimp;done)) (by first|rfl|(simp -dsimp;done)) ?_|refine zt (zfg _ _ hp hq) (by first|rfl|(simp -dsimp;done)) ?_|refine Zu (zfg _ _ hp hq) rfl (by first|rfl|(simp -dsimp;done)) (by first|rfl|(simp -dsimp;done)) ?_|refine zm zd (by kernel_rfl) ?_|exact zc rfl)|(simp -dsimp)));(all_goals try with_reducible refine zc ?_)
 all_goals simp_all [zfO]
@[simp] theorem zxE:prog.isStr 9=true:=by kernel_rfl
theorem zbo (a b:Int):ACalls prog 122 [aI a,aI b] (fun r=>∃n,r=aI n):=by
 refine zg [] func122 (by kernel_rfl) rfl ntmps122 results122 (Nat.le_of_ble_eq_true (by kernel_rfl)) ?_;intro hok w0 S0
 clear hok
 (repeat' (first|(with_reducible first|refine zl (fun _=>?_) (fun _=>?_)|refine zk (fun _=>?_) (fun _=>?_)|refine zm zd (by kernel_rfl) ?_|exact zc rfl)|(simp -dsimp)));(all_goals try with_reducible refine zc ?_)
 all_goals exact ⟨_,rfl⟩
theorem zhF (b:UInt8):zO prog (convert 5 2 (.int .u8 b.toNat))=some (.c (.d (.v (.int .i64 b.toNat)))):=by
 have hb:=b.toNat_lt
 have h:zn prog (convert 5 2 (.int .u8 b.toNat))=some (.int .i64 b.toNat):=by
  have hw:IntKind.wrap .i64 (b.toNat:Int)=b.toNat:=by rw[zy]<;>omega
  simp [convert,underlying,program,bind,Sem.bind,zn,pure,Conv.intToInt,hw]
 unfold zO;rw[h];simp [Zj,zao];omega
theorem zdN (s t:ByteArray):ACalls prog 121 [aS s,aS t] (fun r=>∃n,r=aI n):=by
 refine zg [(4,([],[(0,[]),(1,[]),(2,[]),(3,[]),(4,[]),(5,[]),(6,[])])),(5,([8],[(0,[]),(1,[]),(2,[]),(3,[]),(4,[]),(5,[]),(6,[]),(7,[]),(8,[]),(9,[])]))] func121 (by kernel_rfl) rfl ntmps121 results121 (Nat.le_of_ble_eq_true (by kernel_rfl)) ?_;intro hok w0 S0
 have b1:=zhD (zul (hok (aS s) (by simp)))
 have b2:=zhD (zul (hok (aS t) (by simp)))
 clear hok
 (repeat' (first|(with_reducible first|refine zl (fun _=>?_) (fun _=>?_)|refine zk (fun _=>?_) (fun _=>?_)|refine zm zd (by kernel_rfl) ?_|exact zc rfl)|(simp -dsimp)));(all_goals try with_reducible refine zc ?_)
 refine zJ (fun i:Nat=>⟨[(0,aS s),(1,aS t),(5,aI i)],[]⟩) (fun i=>i≤s.size) (fun i=>s.size - i) 0 ?_ (Nat.zero_le _) ?_
 ·exact Weak.same (by simp -dsimp) (by simp -dsimp) (by first|rfl|(simp [zj,Av.ids,Ow.ids,Cl.ids,Go.Smd.keys];done))
 ·rintro i hi K hK
  have hw:IntKind.wrap .i64 ((i:Int)+1)=((i+1:Nat):Int):=by rw[zy]<;>omega
  by_cases h1:i<s.size
  ·by_cases h2:i<t.size
   ·(repeat' (first|(with_reducible first|refine zl (fun _=>?_) (fun _=>?_)|refine zk (fun _=>?_) (fun _=>?_))|((with_reducible refine zlc (zbo _ _) (by first|rfl|(simp -dsimp [hw,h1,h2,zhF];done)) ?_);rintro _ ⟨x,rfl⟩ _)|((with_reducible refine zld (zbo _ _) rfl (by first|rfl|(simp -dsimp [hw,h1,h2,zhF];done)) (by first|rfl|(simp -dsimp [hw,h1,h2,zhF];done)) ?_);rintro _ ⟨x,rfl⟩ _)|(with_reducible first|refine zm zd (by kernel_rfl) ?_|exact zc rfl)|(simp -dsimp [hw,h1,h2,zhF])));(all_goals try with_reducible refine zc ?_)
    ·exact ⟨_,rfl⟩
    ·refine hK _ (i+1) ?_ (by omega) (by omega)
     exact Weak.same (by simp -dsimp) (by simp -dsimp) (by first|rfl|(simp [zj,Av.ids,Ow.ids,Cl.ids,Go.Smd.keys];done))
   ·(repeat' (first|(with_reducible first|refine zl (fun _=>?_) (fun _=>?_)|refine zk (fun _=>?_) (fun _=>?_))|((with_reducible refine zlc (zbo _ _) (by first|rfl|(simp -dsimp [hw,h1,h2];done)) ?_);rintro _ ⟨x,rfl⟩ _)|((with_reducible refine zld (zbo _ _) rfl (by first|rfl|(simp -dsimp [hw,h1,h2];done)) (by first|rfl|(simp -dsimp [hw,h1,h2];done)) ?_);rintro _ ⟨x,rfl⟩ _)|(with_reducible first|refine zm zd (by kernel_rfl) ?_|exact zc rfl)|(simp -dsimp [hw,h1,h2])));(all_goals try with_reducible refine zc ?_)
    all_goals exact ⟨_,rfl⟩
  ·(repeat' (first|(with_reducible first|refine zl (fun _=>?_) (fun _=>?_)|refine zk (fun _=>?_) (fun _=>?_))|((with_reducible refine zlc (zbo _ _) (by first|rfl|(simp -dsimp [hw,h1];done)) ?_);rintro _ ⟨x,rfl⟩ _)|((with_reducible refine zld (zbo _ _) rfl (by first|rfl|(simp -dsimp [hw,h1];done)) (by first|rfl|(simp -dsimp [hw,h1];done)) ?_);rintro _ ⟨x,rfl⟩ _)|(with_reducible first|refine zm zd (by kernel_rfl) ?_|exact zc rfl)|(simp -dsimp [hw,h1])));(all_goals try with_reducible refine zc ?_)
   all_goals exact ⟨_,rfl⟩
theorem zhg (l:List GV)(hl:l.length*88≤140737488351232):ACalls prog 75 [.c (.d (zbI l))] (fun r=>r= .c (.d (zbI (l.map zz)))):=by
 refine zg [] func75 (by kernel_rfl) rfl ntmps75 results75 (Nat.le_of_ble_eq_true (by kernel_rfl)) ?_;intro hok w0 S0
 clear hok
 have b1:l.length≤9223372036854775807:=by omega
 have b2:88*l.length≤281474976710656:=by omega
 (repeat' (first|(with_reducible first|refine zl (fun _=>?_) (fun _=>?_)|refine zk (fun _=>?_) (fun _=>?_)|refine zm zd (by kernel_rfl) ?_|exact zc rfl)|(simp -dsimp [b1,b2])));(all_goals try with_reducible refine zc ?_)
 refine zJ (fun i:Nat=>⟨[(3,.c (.gs 8 i)),(9,.c (.d (zbI l))),(10,aI l.length),(11,aI i)],[(8,.arr i 27 ((l.map (gvD∘zz)).take i))]⟩) (fun i=>i≤l.length) (fun i=>l.length - i) 0 ?_ (Nat.zero_le _) ?_
 ·exact Weak.same (by simp -dsimp) (by simp -dsimp) (by first|rfl|(simp [zj,Av.ids,Ow.ids,Cl.ids,Go.Smd.keys];done))
 ·rintro i hi K hK
  by_cases hlt:i<l.length
  ·have hw:IntKind.wrap .i64 ((i:Int)+1)=((i+1:Nat):Int):=by rw[zy]<;>omega
   have hb:(min i l.length+1)*88≤140737488351232:=by omega
   have h1:(l.map (gvD∘zz)).take (i+1)=(l.map (gvD∘zz)).take i++ [gvD (zz l[i])]:=by
    rw[List.take_succ_eq_append_getElem (by simpa using hlt)]
    simp
   (repeat' (first|(with_reducible first|refine zl (fun _=>?_) (fun _=>?_)|refine zk (fun _=>?_) (fun _=>?_)|refine zt (zgj _) (by first|rfl|(simp -dsimp [b1,hlt,hw,hb,zf];done)) ?_|refine zm zd (by kernel_rfl) ?_|exact zc rfl)|(simp -dsimp [b1,hlt,hw,hb,zf])));(all_goals try with_reducible refine zc ?_)
   refine hK _ (i+1) ?_ (by omega) (by omega)
   rw[h1]
   exact Weak.same (by simp -dsimp) (by simp -dsimp) (by first|rfl|(simp [zj,Av.ids,Ow.ids,Cl.ids,Go.Smd.keys];done))
  ·(repeat' (first|(with_reducible first|refine zl (fun _=>?_) (fun _=>?_)|refine zk (fun _=>?_) (fun _=>?_)|refine zm zd (by kernel_rfl) ?_|exact zc rfl)|(simp -dsimp [hlt])));(all_goals try with_reducible refine zc ?_)
   rw[List.take_of_length_le (by simp;omega)]
   show _=Av.c (.d (.sl _ ((l.map zz).map gvD)))
   rw[List.map_map]
theorem zhh (k:Int)(s:ByteArray)(keys:List ByteArray)(l:List GV)(a b:Int)(c:Nat)(d:ByteArray)(e:List ByteArray)(f:List GV)(n:Int)(hk:keys.length*16≤140737488351232)(hl:l.length*88≤140737488351232):
  ACalls prog 63 [evX k s keys l a b c d e f n] (fun r=>∃k s ks l a b c d e f n,r=evX k s ks l a b c d e f n∧ks.length*16≤140737488351232∧l.length*88≤140737488351232):=by
 refine zg [(4,([10],[(1,[]),(2,[]),(3,[]),(4,[]),(6,[]),(7,[]),(8,[]),(9,[]),(0,[]),(5,[]),(10,[]),(11,[]),(12,[])]))] func63 (by kernel_rfl) rfl ntmps63 results63 (Nat.le_of_ble_eq_true (by kernel_rfl)) ?_;intro hok w0 S0
 clear hok
 have b1:keys.length≤9223372036854775807:=by omega
 have b2:l.length≤9223372036854775807:=by omega
 have hc:=zgj (.mk a b c d e f)
 obtain ⟨a1,a2,a3,a4,a5,a6,hcl⟩:∃a1 a2 a3 a4 a5 a6,zz (.mk a b c d e f)= .mk a1 a2 a3 a4 a5 a6:=by cases zz (.mk a b c d e f);exact ⟨_,_,_,_,_,_,rfl⟩
 rw[hcl,zdM,zdM] at hc
 obtain ⟨m,hm⟩:∃m:Nat,m=min keys.length l.length:=⟨_,rfl⟩
 have hmin:min (keys.length:Int) (l.length:Int)=(m:Int):=by omega
 have hm1:m≤keys.length:=by omega
 have hm2:m≤l.length:=by omega
 have hp:=zhg (l.take m) (by simp;omega)
 rw[show zbI (l.take m)= .sl 27 ((l.map gvD).take m) by rw[zbI,List.map_take]] at hp
 have hr:m*16≤140737488351232:=by omega
 (repeat' (first|(with_reducible first|refine zl (fun _=>?_) (fun _=>?_)|refine zk (fun _=>?_) (fun _=>?_)|refine zt (hc) (by first|rfl|(simp -dsimp [b1,b2,zf,hmin,hm1,hm2,hr];done)) ?_|(refine Zu (hc) rfl ?_ ?_ ?_;iterate 2 exact by first|rfl|(simp -dsimp [b1,b2,zf,hmin,hm1,hm2,hr];done))|refine zt (hp) (by first|rfl|(simp -dsimp [b1,b2,zf,hmin,hm1,hm2,hr];done)) ?_|(refine Zu (hp) rfl ?_ ?_ ?_;iterate 2 exact by first|rfl|(simp -dsimp [b1,b2,zf,hmin,hm1,hm2,hr];done))|refine zm zd (by kernel_rfl) ?_|exact zc rfl)|(simp -dsimp [b1,b2,zf,hmin,hm1,hm2,hr])));(all_goals try with_reducible refine zc ?_)
 ·refine zd8 ⟨1,.empty,keys.take m,(l.take m).map zz,0,0,0,.empty,[],[],0,?_,by simp;omega,by simp;omega⟩
  simp only [evX,zav,zbI,zbA,List.map_take];rfl
 ·exact zd8 ⟨2,.empty,[],[],a1,a2,a3,a4,a5,a6,0,rfl,by simp,by simp⟩
 ·exact zd8 ⟨3,.empty,[],[],0,0,0,.empty,[],[],n,rfl,by simp,by simp⟩
 ·exact zd8 ⟨0,s,[],[],0,0,0,.empty,[],[],0,rfl,by simp,by simp⟩
theorem zmu (k:Int)(s:ByteArray)(keys:List ByteArray)(l:List GV)(a b:Int)(c:Nat)(d:ByteArray)(e:List ByteArray)(f:List GV)(n:Int)(hk:keys.length*16≤140737488351232)(hl:l.length*88≤140737488351232):
  ACalls prog 66 [evX k s keys l a b c d e f n] (fun r=>∃b,r=aV (.bool b)):=by
 refine zg [(5,([11],[(0,[]),(1,[]),(2,[]),(3,[]),(4,[]),(5,[]),(6,[]),(7,[]),(8,[]),(9,[]),(10,[]),(11,[]),(12,[])]))] func66 (by kernel_rfl) rfl ntmps66 results66 (Nat.le_of_ble_eq_true (by kernel_rfl)) ?_;intro hok w0 S0
 clear hok
 (repeat' (first|(with_reducible first|refine zl (fun _=>?_) (fun _=>?_)|refine zk (fun _=>?_) (fun _=>?_))|((with_reducible refine zlc (zhh _ _ _ _ _ _ _ _ _ _ _ hk hl) (by first|rfl|(simp -dsimp;done)) ?_);rintro _ ⟨k2,s2,ks2,l2,a2,b2,c2,d2,e2,f2,n2,rfl,hk2,hl2⟩ _)|((with_reducible refine zld (zhh _ _ _ _ _ _ _ _ _ _ _ hk hl) rfl (by first|rfl|(simp -dsimp;done)) (by first|rfl|(simp -dsimp;done)) ?_);rintro _ ⟨k2,s2,ks2,l2,a2,b2,c2,d2,e2,f2,n2,rfl,hk2,hl2⟩ _)|(with_reducible first|refine zm zd (by kernel_rfl) ?_|exact zc rfl)|(simp -dsimp)));(all_goals try with_reducible refine zc ?_)
 refine zJ (fun i:Nat=>⟨[(1,.c (.own 1 0)),(3,aI (i+1))],[(1,.cells [.d (dI k2),.d (dS s2),.d (zav ks2),.d (zbI l2),.d (dI a2),.d (dI b2),.d (dF c2),.d (dS d2),.d (zav e2),.d (zbI f2),.d (dI n2)] 29)]⟩) (fun i=>i≤ks2.length) (fun i=>ks2.length - i) 0 ?_ (Nat.zero_le _) ?_
 ·exact Weak.same (by simp -dsimp) (by simp -dsimp) (by first|rfl|(simp [zj,Av.ids,Ow.ids,Cl.ids,Go.Smd.keys];done))
 ·rintro i hi K hK
  have b1:ks2.length≤9223372036854775807:=by omega
  by_cases hlt:i+1<ks2.length
  ·have hw:IntKind.wrap .i64 ((i:Int)+1+1)=(i:Int)+1+1:=by rw[zy]<;>omega
   have hw2:IntKind.wrap .i64 (i:Int)=(i:Int):=by rw[zy]<;>omega
   have h0:i<ks2.length:=by omega
   have h1:(i:Int)+1<ks2.length:=by omega
   have h2:(0:Int)≤i+1:=by omega
   have h3:((i:Int)+1).toNat=i+1:=by omega
   (repeat' (first|(with_reducible first|refine zl (fun _=>?_) (fun _=>?_)|refine zk (fun _=>?_) (fun _=>?_))|((with_reducible refine zlc (zdN _ _) (by first|rfl|(simp -dsimp [b1,hlt,hw,hw2,h0,h1,h2,h3,zbA];done)) ?_);rintro _ ⟨x,rfl⟩ _)|((with_reducible refine zld (zdN _ _) rfl (by first|rfl|(simp -dsimp [b1,hlt,hw,hw2,h0,h1,h2,h3,zbA];done)) (by first|rfl|(simp -dsimp [b1,hlt,hw,hw2,h0,h1,h2,h3,zbA];done)) ?_);rintro _ ⟨x,rfl⟩ _)|(with_reducible first|refine zm zd (by kernel_rfl) ?_|exact zc rfl)|(simp -dsimp [b1,hlt,hw,hw2,h0,h1,h2,h3,zbA])));(all_goals try with_reducible refine zc ?_)
   ·exact ⟨_,rfl⟩
   ·refine hK _ (i+1) ?_ (by omega) (by omega)
    exact Weak.same (by simp -dsimp) (by simp -dsimp) (by first|rfl|(simp [zj,Av.ids,Ow.ids,Cl.ids,Go.Smd.keys];done))
  ·have h1:¬((i:Int)+1<ks2.length):=by omega
   (repeat' (first|(with_reducible first|refine zl (fun _=>?_) (fun _=>?_)|refine zk (fun _=>?_) (fun _=>?_)|refine zm zd (by kernel_rfl) ?_|exact zc rfl)|(simp -dsimp [b1,hlt,h1])));(all_goals try with_reducible refine zc ?_)
   exact ⟨_,rfl⟩
abbrev ztJ:=List (ByteArray×GV)
def zeR:ztJ→ztJ→Bool
 |p::l,q::m=>decide (p.1=q.1) && eqP (zz p.2) (zz q.2) && zeR l m
 | [],[]=>true
 |_,_=>false
theorem zmv:∀{l m:ztJ},l.length≠m.length→zeR l m=false
 | [],[],h=>absurd rfl h
 | [],_::_,_=>rfl
 |_::_,[],_=>rfl
 |x::xs,y::ys,h=>by simp only [zeR];rw[zmv (by simpa using h)];simp
theorem zhi (k:Int)(s:ByteArray)(keys:List ByteArray)(l:List GV)(a b:Int)(c:Nat)(d:ByteArray)(e:List ByteArray)(f:List GV)(n:Int)(k':Int)(s':ByteArray)(keys':List ByteArray)(l':List GV)(a' b':Int)(c':Nat)(d':ByteArray)(e':List ByteArray)(f':List GV)(n':Int)(hk:keys.length*16≤140737488351232)(hl:l.length*88≤140737488351232)(hk':keys'.length*16≤140737488351232)(hl':l'.length*88≤140737488351232):
  ACalls prog 85 [evX k s keys l a b c d e f n,evX k' s' keys' l' a' b' c' d' e' f' n'] (fun r=>r=aV (.bool (zeR (keys.zip l) (keys'.zip l')))):=by
 refine zg [(1,([],[(0,[]),(1,[]),(2,[]),(3,[]),(4,[]),(5,[]),(6,[]),(7,[]),(8,[]),(9,[]),(10,[]),(11,[]),(12,[]),(13,[]),(14,[]),(15,[])])),(7,([22],[(0,[]),(1,[]),(2,[]),(3,[]),(4,[]),(5,[]),(6,[]),(7,[]),(8,[]),(9,[]),(10,[]),(11,[]),(12,[]),(13,[]),(14,[]),(15,[]),(16,[]),(17,[]),(18,[]),(19,[]),(20,[]),(21,[]),(22,[]),(23,[]),(24,[])]))] func85 (by kernel_rfl) rfl ntmps85 results85 (Nat.le_of_ble_eq_true (by kernel_rfl)) ?_;intro hok w0 S0
 clear hok
 have b1:keys.length≤9223372036854775807:=by omega
 have b2:l.length≤9223372036854775807:=by omega
 have b3:keys'.length≤9223372036854775807:=by omega
 have b4:l'.length≤9223372036854775807:=by omega
 obtain ⟨m,hm⟩:∃m:Nat,m=min keys.length l.length:=⟨_,rfl⟩
 have hmin:min (keys.length:Int) (l.length:Int)=(m:Int):=by omega
 obtain ⟨m',hm'⟩:∃m':Nat,m'=min keys'.length l'.length:=⟨_,rfl⟩
 have hmin':min (keys'.length:Int) (l'.length:Int)=(m':Int):=by omega
 have z1:(keys.zip l).length=m:=by simp [hm]
 have z2:(keys'.zip l').length=m':=by simp [hm']
 (repeat' (first|(with_reducible first|refine zl (fun _=>?_) (fun _=>?_)|refine zk (fun _=>?_) (fun _=>?_)|refine zm zd (by kernel_rfl) ?_|exact zc rfl)|(simp -dsimp [b1,b2,b3,b4,hmin,hmin'])));(all_goals try with_reducible refine zc ?_)
 ·rename_i hn
  rw[zmv (by rw[z1,z2];intro e;rw[e] at hn;simp at hn)]
 rename_i hn
 have hmm:m=m':=by simp at hn;omega
 refine zJ (fun i:Nat=>⟨[(2,.c (.own 2 0)),(3,.c (.own 3 0)),(5,aI m),(7,aI i)],[(3,.cells [.d (dI k'),.d (dS s'),.d (zav keys'),.d (zbI l'),.d (dI a'),.d (dI b'),.d (dF c'),.d (dS d'),.d (zav e'),.d (zbI f'),.d (dI n')] 29),(2,.cells [.d (dI k),.d (dS s),.d (zav keys),.d (zbI l),.d (dI a),.d (dI b),.d (dF c),.d (dS d),.d (zav e),.d (zbI f),.d (dI n)] 29)]⟩) (fun i=>i≤m∧zeR (keys.zip l) (keys'.zip l')=zeR ((keys.zip l).drop i) ((keys'.zip l').drop i)) (fun i=>m - i) 0 ?_ ⟨Nat.zero_le _,rfl⟩ ?_
 ·exact Weak.same (by simp -dsimp) (by simp -dsimp) (by first|rfl|(simp [zj,Av.ids,Ow.ids,Cl.ids,Go.Smd.keys];done))
 ·rintro i ⟨hi,heq⟩ K hK
  by_cases hlt:i<m
  ·have hw:IntKind.wrap .i64 ((i:Int)+1)=((i+1:Nat):Int):=by rw[zy]<;>omega
   have g1:i<keys.length:=by omega
   have g2:i<l.length:=by omega
   have g3:i<keys'.length:=by omega
   have g4:i<l'.length:=by omega
   have hcons:zeR ((keys.zip l).drop i) ((keys'.zip l').drop i)=(decide (keys[i]=keys'[i]) && eqP (zz l[i]) (zz l'[i]) && zeR ((keys.zip l).drop (i+1)) ((keys'.zip l').drop (i+1))):=by
    rw[List.drop_eq_getElem_cons (l:=keys.zip l) (i:=i) (by omega),List.drop_eq_getElem_cons (l:=keys'.zip l') (i:=i) (by omega)];simp [zeR]
   by_cases c1:keys[i]=keys'[i]
   ·cases c2:eqP (zz l[i]) (zz l'[i])
    ·(repeat' (first|(with_reducible first|refine zl (fun _=>?_) (fun _=>?_)|refine zk (fun _=>?_) (fun _=>?_)|refine zt (zar _ _) (by first|rfl|(simp -dsimp [b1,b2,b3,b4,hlt,hw,g1,g2,g3,g4,c1,c2,zbA];done)) ?_|refine Zu (zar _ _) rfl (by first|rfl|(simp -dsimp [b1,b2,b3,b4,hlt,hw,g1,g2,g3,g4,c1,c2,zbA];done)) (by first|rfl|(simp -dsimp [b1,b2,b3,b4,hlt,hw,g1,g2,g3,g4,c1,c2,zbA];done)) ?_|refine zm zd (by kernel_rfl) ?_|exact zc rfl)|(simp -dsimp [b1,b2,b3,b4,hlt,hw,g1,g2,g3,g4,c1,c2,zbA])));(all_goals try with_reducible refine zc ?_)
     all_goals (rw[heq,hcons,c2];simp)
    ·(repeat' (first|(with_reducible first|refine zl (fun _=>?_) (fun _=>?_)|refine zk (fun _=>?_) (fun _=>?_)|refine zt (zar _ _) (by first|rfl|(simp -dsimp [b1,b2,b3,b4,hlt,hw,g1,g2,g3,g4,c1,c2,zbA];done)) ?_|refine Zu (zar _ _) rfl (by first|rfl|(simp -dsimp [b1,b2,b3,b4,hlt,hw,g1,g2,g3,g4,c1,c2,zbA];done)) (by first|rfl|(simp -dsimp [b1,b2,b3,b4,hlt,hw,g1,g2,g3,g4,c1,c2,zbA];done)) ?_|refine zm zd (by kernel_rfl) ?_|exact zc rfl)|(simp -dsimp [b1,b2,b3,b4,hlt,hw,g1,g2,g3,g4,c1,c2,zbA])));(all_goals try with_reducible refine zc ?_)
     refine hK _ (i+1) ?_ ⟨by omega,by rw[heq,hcons,c2];simp [c1]⟩ (by omega)
     exact Weak.same (by simp -dsimp) (by simp -dsimp) (by first|rfl|(simp [zj,Av.ids,Ow.ids,Cl.ids,Go.Smd.keys];done))
   ·(repeat' (first|(with_reducible first|refine zl (fun _=>?_) (fun _=>?_)|refine zk (fun _=>?_) (fun _=>?_)|refine zt (zar _ _) (by first|rfl|(simp -dsimp [b1,b2,b3,b4,hlt,hw,g1,g2,g3,g4,c1,zbA];done)) ?_|refine Zu (zar _ _) rfl (by first|rfl|(simp -dsimp [b1,b2,b3,b4,hlt,hw,g1,g2,g3,g4,c1,zbA];done)) (by first|rfl|(simp -dsimp [b1,b2,b3,b4,hlt,hw,g1,g2,g3,g4,c1,zbA];done)) ?_|refine zm zd (by kernel_rfl) ?_|exact zc rfl)|(simp -dsimp [b1,b2,b3,b4,hlt,hw,g1,g2,g3,g4,c1,zbA])));(all_goals try with_reducible refine zc ?_)
    all_goals (rw[heq,hcons];simp [c1])
  ·(repeat' (first|(with_reducible first|refine zl (fun _=>?_) (fun _=>?_)|refine zk (fun _=>?_) (fun _=>?_)|refine zm zd (by kernel_rfl) ?_|exact zc rfl)|(simp -dsimp [hlt])));(all_goals try with_reducible refine zc ?_)
   rw[heq,List.drop_eq_nil_of_le (by omega),List.drop_eq_nil_of_le (by omega)];rfl
def rkE (k:Int):Int:=if k=1∨k=2∨k=3 then k else 0
theorem ziN (k:Int)(s:ByteArray)(keys:List ByteArray)(l:List GV)(a b:Int)(c:Nat)(d:ByteArray)(e:List ByteArray)(f:List GV)(n:Int):
  ACalls prog 84 [evX k s keys l a b c d e f n] (fun r=>r=aI (rkE k)):=by
 refine zg [] func84 (by kernel_rfl) rfl ntmps84 results84 (Nat.le_of_ble_eq_true (by kernel_rfl)) ?_;intro hok w0 S0
 clear hok
 (repeat' (first|(with_reducible first|refine zl (fun _=>?_) (fun _=>?_)|refine zk (fun _=>?_) (fun _=>?_)|refine zm zd (by kernel_rfl) ?_|exact zc rfl)|(simp -dsimp)));(all_goals try with_reducible refine zc ?_)
 all_goals simp_all [rkE]
def zeu (e e':EV):Bool:=if rkE e.k≠rkE e'.k then false else if rkE e.k=1 then zeR (e.keys.zip e.l) (e'.keys.zip e'.l) else if rkE e.k=2 then eqP (zz e.v) (zz e'.v) else if rkE e.k=3 then decide (e.n=e'.n) else decide (e.s=e'.s)
theorem zeS (k n:Int)(f:Nat)(s:ByteArray)(ks:List ByteArray)(l:List GV)(k' n':Int)(f':Nat)(s':ByteArray)(ks':List ByteArray)(l':List GV):ACalls prog 30 [gvX k n f s ks l,gvX k' n' f' s' ks' l'] (fun r=>r=aV (.bool (eqP (zz (.mk k n f s ks l)) (zz (.mk k' n' f' s' ks' l'))))):=by
 have h:=zar (.mk k n f s ks l) (.mk k' n' f' s' ks' l')
 rw[zdM,zdM] at h;exact h
theorem zjq (k:Int)(s:ByteArray)(keys:List ByteArray)(l:List GV)(a b:Int)(c:Nat)(d:ByteArray)(e:List ByteArray)(f:List GV)(n:Int)(k':Int)(s':ByteArray)(keys':List ByteArray)(l':List GV)(a' b':Int)(c':Nat)(d':ByteArray)(e':List ByteArray)(f':List GV)(n':Int)(hk:keys.length*16≤140737488351232)(hl:l.length*88≤140737488351232)(hk':keys'.length*16≤140737488351232)(hl':l'.length*88≤140737488351232):
  ACalls prog 27 [evX k s keys l a b c d e f n,evX k' s' keys' l' a' b' c' d' e' f' n'] (fun r=>r=aV (.bool (zeu ⟨k,s,keys,l,.mk a b c d e f,n⟩ ⟨k',s',keys',l',.mk a' b' c' d' e' f',n'⟩))):=by
 refine zg [(1,([3],[(0,[]),(2,[]),(1,[]),(3,[]),(4,[])]))] func27 (by kernel_rfl) rfl ntmps27 results27 (Nat.le_of_ble_eq_true (by kernel_rfl)) ?_;intro hok w0 S0
 clear hok
 (repeat' (first|(with_reducible first|refine zl (fun _=>?_) (fun _=>?_)|refine zk (fun _=>?_) (fun _=>?_)|refine zt (ziN _ _ _ _ _ _ _ _ _ _ _) (by first|rfl|(simp -dsimp;done)) ?_|refine Zu (ziN _ _ _ _ _ _ _ _ _ _ _) rfl (by first|rfl|(simp -dsimp;done)) (by first|rfl|(simp -dsimp;done)) ?_|refine zt (zhi _ _ _ _ _ _ _ _ _ _ _ _ _ _ _ _ _ _ _ _ _ _ hk hl hk' hl') (by first|rfl|(simp -dsimp;done)) ?_|refine Zu (zhi _ _ _ _ _ _ _ _ _ _ _ _ _ _ _ _ _ _ _ _ _ _ hk hl hk' hl') rfl (by first|rfl|(simp -dsimp;done)) (by first|rfl|(simp -dsimp;done)) ?_|refine zt (zeS _ _ _ _ _ _ _ _ _ _ _ _) (by first|rfl|(simp -dsimp;done)) ?_|refine Zu (zeS _ _ _ _ _ _ _ _ _ _ _ _) rfl (by first|rfl|(simp -dsimp;done)) (by first|rfl|(simp -dsimp;done)) ?_|refine zm zd (by kernel_rfl) ?_|exact zc rfl)|(simp -dsimp)));(all_goals try with_reducible refine zc ?_)
 all_goals simp_all [zeu]
theorem zki:∀{l m:ztJ},(∀p∈l,z8 (zp p.2))→(∀p∈m,z8 (zp p.2))→zeP (l.map fun p=>(p.1,zp p.2)) (m.map fun p=>(p.1,zp p.2))=zeR l m
 | [],[],_,_=>rfl
 | [],_::_,_,_=>rfl
 |_::_,[],_,_=>rfl
 |x::l,y::m,hx,hy=>by
  simp only [List.map_cons,zeP,zeR]
  rw[zki (l:=l) (m:=m) (fun p hp=>hx p (List.mem_cons_of_mem _ hp)) (fun p hp=>hy p (List.mem_cons_of_mem _ hp)),ziL _ _ (hx x (List.mem_cons_self ..)) (hy y (List.mem_cons_self ..))]
theorem zec (keys:List ByteArray)(l:List GV):zb0 keys l=(keys.zip l).map fun p=>(p.1,zp p.2):=by
 unfold zb0
 rw[List.zip_map_right]
 rfl
structure FitsE (e:EV):Prop where
 items:∀x∈e.l,z8 (zp x)
 val:z8 (zp e.v)
theorem FitsE.zip {e:EV}(h:FitsE e):∀p∈e.keys.zip e.l,z8 (zp p.2):=fun p hp=>h.items _ (List.of_mem_zip hp).2
theorem FitsE.le {e:EV}(h:FitsE e):zas (z9 e):=by
 unfold z9
 split
 ·simp only [zas,zec]
  intro p hp
  obtain ⟨q,hq,rfl⟩:=List.mem_map.1 hp
  exact h.zip q hq
 ·split
  ·exact h.val
  ·split<;>trivial
theorem zkj (e e':EV)(h:FitsE e)(h':FitsE e'):zfO (z9 e) (z9 e')=zeu e e':=by
 have h1:=zki h.zip h'.zip
 rw[←zec,←zec] at h1
 have h2:=ziL _ _ h.val h'.val
 unfold z9 zeu rkE
 by_cases k1:e.k=1
 ·by_cases k1':e'.k=1
  ·simp [k1,k1',zfO,h1]
  ·by_cases k2':e'.k=2
   ·simp [k1,k2',zfO]
   ·by_cases k3':e'.k=3<;>simp [k1,k1',k2',k3',zfO]
 ·by_cases k2:e.k=2
  ·by_cases k1':e'.k=1
   ·simp [k2,k1',zfO]
   ·by_cases k2':e'.k=2
    ·simp [k2,k2',zfO,h2]
    ·by_cases k3':e'.k=3<;>simp [k2,k1',k2',k3',zfO]
  ·by_cases k3:e.k=3
   ·by_cases k1':e'.k=1
    ·simp [k3,k1',zfO]
    ·by_cases k2':e'.k=2
     ·simp [k3,k2',zfO]
     ·by_cases k3':e'.k=3<;>simp [k3,k1',k2',k3',zfO]
   ·by_cases k1':e'.k=1
    ·simp [k1,k2,k3,k1',zfO]
    ·by_cases k2':e'.k=2
     ·simp [k1,k2,k3,k2',zfO]
     ·by_cases k3':e'.k=3<;>simp [k1,k2,k3,k1',k2',k3',zfO]
theorem zwG {e:EV}(h:okA prog (evA e)):e.keys.length*16≤140737488351232∧(∀k∈e.keys,k.size≤140737488351232)∧e.l.length*88≤140737488351232∧FitsE e:=by
 have h2:∀d∈evD e,okD prog d:=fun d hd=>zod h (.d d) (List.mem_map.2 ⟨d,hd,rfl⟩) d rfl
 have a1:=zlf (h2 (zav e.keys) (by simp [evD]))
 have a2:=zrs (h2 (zbI e.l) (by simp [evD]))
 refine ⟨a1.1,a1.2,a2.1,fun x hx=>zot (a2.2 x hx),zot ?_⟩
 obtain ⟨w,S,v,us,rfl,ha⟩:=h
 have hv:=((zgi.1 ha).drop 4).take 6
 have e1:((evD e).drop 4).take 6=gvD e.v:=by
  show (gvD e.v++ [dI e.n]).take 6=_
  rw[List.take_append_of_le_length (by simp),zrp]
 rw[e1] at hv
 exact zrr (fun d hd=>h2 d (by simp [evD,hd])) w S ⟨_,hv⟩
end Go.Smd
end
