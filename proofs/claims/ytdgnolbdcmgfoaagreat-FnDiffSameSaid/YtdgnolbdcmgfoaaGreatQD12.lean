/- Part 12. -/
import Derived.Test.YtdgnolbdcmgfoaaGreatQD11
import Derived.Test.YtdgnolbdcmgfoaaGreatQD10
import Derived.Test.YtdgnolbdcmgfoaaGreatQD08
set_option linter.unusedVariables false
set_option linter.unusedSimpArgs false
set_option maxRecDepth 100000
set_option maxHeartbeats 8000000
section
namespace Go.Smd
open Go.RowKit
def zkR:List (Nat×Av)→Nat→Av
 | [],_=>.any
 |(k,x)::l,n=>if k=n then x else zkR l n
theorem zqt (n:Nat):zkR [] n= .any:=_root_.id rfl
theorem zsZ (n:Nat)(x:Av)(l:List (Nat×Av)):zkR ((n,x)::l) n=x:=by simp [zkR]
theorem zs0 {k n:Nat}(x:Av)(l:List (Nat×Av))(h:(k=n)=False):zkR ((k,x)::l) n=zkR l n:=by simp [zkR,h]
theorem zlX:∀(l:List (Nat×Av)) (own:List (Nat×Ow)) (n:Nat),(St.mk l own).tmp n=zkR l n
 | [],own,n=>rfl
 |(k,x)::l,own,n=>by
  have:=zlX l own n
  unfold St.tmp at*
  simp only [zd,zkR]
  split<;>simp_all
theorem zqu {α:Type}(n:Nat):zd ([]:List (Nat×α)) n=none:=_root_.id rfl
theorem zs1 {α:Type}(n:Nat)(x:α)(l:List (Nat×α)):zd ((n,x)::l) n=some x:=by simp [zd]
theorem zs2 {α:Type}{k n:Nat}(x:α)(l:List (Nat×α))(h:(k=n)=False):zd ((k,x)::l) n=zd l n:=by simp [zd,h]
theorem zxT (l:List (Nat×Av))(own:List (Nat×Ow))(n:Nat):(St.mk l own).h n=zd own n:=_root_.id rfl
theorem zqv (l:List (Nat×Av))(own:List (Nat×Ow))(d:Tmp)(x:Av):(St.mk l own).put (some d) x=⟨(d,x)::l,own⟩:=_root_.id rfl
theorem zqw (σ:St)(x:Av):σ.put none x=σ:=_root_.id rfl
theorem zuV (l:List (Nat×Av))(own:List (Nat×Ow))(d:Nat)(o:Ow):(St.mk l own).new d o=⟨l,(d,o)::own⟩:=_root_.id rfl
theorem zuW (σ:St)(t:Tmp):σ.ev (.tmp t)=σ.tmp t:=_root_.id rfl
theorem zs3 (σ:St)(f:FuncId):σ.ev (.func f)= .c (.d (.v (.func (.func f) #[] #[]))):=_root_.id rfl
theorem zqx (σ:St)(v:Value):σ.ev (.const v)=if z7 v then .c (.d (.v v)) else .any:=_root_.id rfl
theorem zs4 (σ:St)(b:Bool):σ.ev (.const (.bool b))= .c (.d (.v (.bool b))):=_root_.id rfl
theorem zlY (σ:St):σ.ev (.const .nilIface)= .c (.d (.v .nilIface)):=_root_.id rfl
theorem zo4 (σ:St):σ.ev (.const (.pointer none))= .c (.d (.v (.pointer none))):=_root_.id rfl
theorem zm6 (σ:St):σ.ev (.const .nilFunc)= .c (.d (.v .nilFunc)):=_root_.id rfl
theorem zlZ (σ:St):σ.ev (.const (.slice none 0 0))= .c (.d (.v (.slice none 0 0))):=_root_.id rfl
theorem zo5 (σ:St):σ.ev (.const (.map none))= .c (.d (.v (.map none))):=_root_.id rfl
section
variable {P:Program} {σ:St} {d:Option Tmp} {ty:TypeId} {pos:String} {af:Array Edge} {g:Option (Nat×Bool)}
theorem zs5 {x:Operand}:zJ P σ ⟨d,.move x,ty,pos,af,g⟩=some (σ.ev x):=_root_.id rfl
theorem zo6 {x:Operand}:zJ P σ ⟨d,.assign x,ty,pos,af,g⟩=some (σ.ev x):=_root_.id rfl
def zqy:Av→Av→Av→Option Av
 | .c (.d (.v (.bool t))),a,b=>some (if t then a else b)
 |_,_,_=>none
theorem zuX {t:Bool}{a b:Av}:zqy (.c (.d (.v (.bool t)))) a b=some (if t then a else b):=_root_.id rfl
theorem zs6 {c x y:Operand}:zJ P σ ⟨d,.pick c x y,ty,pos,af,g⟩=zqy (σ.ev c) (σ.ev x) (σ.ev y):=by
 show (match σ.ev c with| .c (.d (.v (.bool t)))=>some (if t then σ.ev x else σ.ev y)|_=>none)=_
 unfold zqy
 split<;>simp_all
def unA (P:Program)(op:UnOp):Av→Option Av
 | .c (.d (.v v))=>zH P (Op.unary op v)
 |_=>none
theorem zxU {op:UnOp}{v:Value}:unA P op (.c (.d (.v v)))=zH P (Op.unary op v):=_root_.id rfl
theorem zs7 {op:UnOp}{T:TypeId}{x:Operand}:zJ P σ ⟨d,.unOp op T x,ty,pos,af,g⟩=unA P op (σ.ev x):=by
 show (match σ.ev x with| .c (.d (.v v))=>zH P (Op.unary op v)|_=>none)=_
 unfold unA
 split<;>simp_all
theorem zqz {op:BinOp}{T T':TypeId}{x y:Operand}:zJ P σ ⟨d,.binOp op T x y T',ty,pos,af,g⟩=ZH P op T x y (σ.ev x) (σ.ev y):=_root_.id rfl
def zqA (P:Program)(s t:TypeId):Av→Option Av
 | .c (.d (.v v))=>zH P (convert s t v)
 |_=>none
theorem zuY {s t:TypeId}{v:Value}:zqA P s t (.c (.d (.v v)))=zH P (convert s t v):=_root_.id rfl
theorem zm7 {s t:TypeId}{x:Operand}:zJ P σ ⟨d,.convert s t x,ty,pos,af,g⟩=zqA P s t (σ.ev x):=by
 show (match σ.ev x with| .c (.d (.v v))=>zH P (convert s t v)|_=>none)=_
 unfold zqA
 split<;>simp_all
theorem zkS {T f:Nat}{x:Operand}:zJ P σ ⟨d,.fieldAddr T x f,ty,pos,af,g⟩=Zq P T f (σ.ev x):=_root_.id rfl
theorem zs8 {T:TypeId}{x:Operand}:zJ P σ ⟨d,.load T x,ty,pos,af,g⟩=zbr P σ.h T (σ.ev x):=_root_.id rfl
theorem zkT {T:TypeId}{x i:Operand}:zJ P σ ⟨d,.indexAddr T x i,ty,pos,af,g⟩=Zi P σ.h T (σ.ev x) (σ.ev i):=_root_.id rfl
theorem zqB {T:TypeId}{x i:Operand}:zJ P σ ⟨d,.index T x i,ty,pos,af,g⟩=zhz P T (σ.ev x) (σ.ev i):=_root_.id rfl
theorem zm8 {x:Operand}{i:Nat}:zJ P σ ⟨d,.extract x i,ty,pos,af,g⟩=Z9 (σ.ev x) i:=_root_.id rfl
def zo7:Av→Option Av
 | .c (.own id off)=>some (.c (.own id off))
 | .c (.d (.pt xs))=>some (.c (.d (.pt xs)))
 | .c (.io T id off)=>some (.c (.io T id off))
 | .c (.d (.ifc T y))=>some (.c (.d (.ifc T y)))
 |_=>none
theorem zs9 {id off:Nat}:zo7 (.c (.own id off))=some (.c (.own id off)):=_root_.id rfl
theorem zuZ {xs:List D}:zo7 (.c (.d (.pt xs)))=some (.c (.d (.pt xs))):=_root_.id rfl
theorem zu0 {T:TypeId}{id off:Nat}:zo7 (.c (.io T id off))=some (.c (.io T id off)):=_root_.id rfl
theorem zta {T:TypeId}{y:D}:zo7 (.c (.d (.ifc T y)))=some (.c (.d (.ifc T y))):=_root_.id rfl
theorem zl0 {x:Operand}:zJ P σ ⟨d,.nilCheck x,ty,pos,af,g⟩=zo7 (σ.ev x):=by
 show (match σ.ev x with| .c (.own id off)=>some (Av.c (.own id off))| .c (.d (.pt xs))=>some (Av.c (.d (.pt xs)))| .c (.io T id off)=>some (Av.c (.io T id off))| .c (.d (.ifc T y))=>some (Av.c (.d (.ifc T y)))|_=>none)=_
 unfold zo7
 split<;>simp_all
theorem zi0 {x:Operand}{T U:TypeId}{ok:Bool}:zJ P σ ⟨d,.typeAssert x T U ok,ty,pos,af,g⟩=zaH P U ok (σ.ev x):=_root_.id rfl
theorem zl1 {fn:Fn}{first caps:Array Operand}:zJ P σ ⟨d,.makeFunc fn first caps,ty,pos,af,g⟩=Zx fn first.isEmpty caps.isEmpty:=_root_.id rfl
theorem zo8 {T:TypeId}{x k:Operand}{ok:Bool}:zJ P σ ⟨d,.lookup T x k ok,ty,pos,af,g⟩=zcJ P T (σ.ev x) (σ.ev k) ok:=_root_.id rfl
theorem zgs {T:TypeId}{x:Operand}:zJ P σ ⟨d,.makeInterface T x,ty,pos,af,g⟩=Z8 P T (σ.ev x):=_root_.id rfl
theorem zqC {T:TypeId}{ps:List (Nat×Operand)}:zJ P σ ⟨d,.build T ps.toArray,ty,pos,af,g⟩=zaB P σ T ps:=_root_.id rfl
theorem zqD {T:TypeId}{x:Operand}{lo hi:Option Operand}:zJ P σ ⟨d,.slice T x lo hi none,ty,pos,af,g⟩=zbG P T (σ.ev x) (lo.map σ.ev) (hi.map σ.ev):=_root_.id rfl
theorem ztb {c:Callee}{xs:List Operand}{Ts:Array TypeId}:zJ P σ ⟨d,.call ⟨c,xs.toArray,Ts⟩,ty,pos,af,g⟩=Zw P σ ⟨c,xs.toArray,Ts⟩:=_root_.id rfl
theorem zo9 {f:Operand}{xs:Array Operand}{Ts:Array TypeId}:Zw P σ ⟨.value f,xs,Ts⟩=none:=_root_.id rfl
theorem zm9 {f:Operand}{m:String}{xs:Array Operand}{Ts:Array TypeId}:Zw P σ ⟨.invoke f m,xs,Ts⟩=none:=_root_.id rfl
theorem ztc {x:Operand}{T:TypeId}:Zw P σ ⟨.builtin .len, #[x], #[T]⟩=(match zbE P T (σ.ev x) with|some r=>some r|none=>zes P σ.h T (σ.ev x)):=_root_.id rfl
theorem ztd {xs:List Operand}{Ts:Array TypeId}:Zw P σ ⟨.builtin .min,xs.toArray,Ts⟩=ze3 (xs.map σ.ev):=_root_.id rfl
theorem zna {xs:Array Operand}{Ts:Array TypeId}:Zw P σ ⟨.builtin .append,xs,Ts⟩=none:=_root_.id rfl
theorem zqE {T:TypeId}:zJ P σ ⟨d,.alloc T,ty,pos,af,g⟩=none:=_root_.id rfl
theorem zu1 {T:TypeId}{x:Operand}:zJ P σ ⟨d,.box T x,ty,pos,af,g⟩=none:=_root_.id rfl
theorem zqF {T:TypeId}{x y:Operand}:zJ P σ ⟨d,.store T x y,ty,pos,af,g⟩=none:=_root_.id rfl
theorem zi1 {T:TypeId}{n:Nat}{ps:Array (Nat×Operand)}:zJ P σ ⟨d,.buildSlice T n ps,ty,pos,af,g⟩=none:=_root_.id rfl
theorem zkU {T:TypeId}{x y:Operand}:zJ P σ ⟨d,.makeSlice T x y,ty,pos,af,g⟩=none:=_root_.id rfl
theorem zqG {T:TypeId}{x:Operand}:zJ P σ ⟨d,.range T x,ty,pos,af,g⟩=none:=_root_.id rfl
theorem zte {x:Operand}{b:Bool}:zJ P σ ⟨d,.next x b,ty,pos,af,g⟩=none:=_root_.id rfl
theorem zqH {x:Operand}:zJ P σ ⟨d,.entry x,ty,pos,af,g⟩=none:=_root_.id rfl
theorem zqI {c:Call}:zJ P σ ⟨d,.defer c,ty,pos,af,g⟩=none:=_root_.id rfl
def ztf (σ:St)(d:Option Tmp):Option zcx→Option St
 |some (id,x,r)=>some ((σ.new id x).put d r)
 |none=>none
theorem zpa {id:Nat}{x:Ow}{r:Av}:ztf σ d (some (id,x,r))=some ((σ.new id x).put d r):=_root_.id rfl
theorem zpb:ztf σ d none=none:=_root_.id rfl
theorem zwo {op:Op}:Ze P σ ⟨d,op,ty,pos,af,g⟩=ztf σ d (Zy P σ ⟨d,op,ty,pos,af,g⟩):=by
 unfold Ze ztf
 cases Zy P σ ⟨d,op,ty,pos,af,g⟩<;>rfl
theorem zqJ {T:TypeId}{t:Tmp}:Zy P σ ⟨some t,.alloc T,ty,pos,af,g⟩=(ZB P T).bind fun cs=>Zm σ.h t cs T:=_root_.id rfl
theorem zu2 {T:TypeId}{x:Operand}{t:Tmp}:Zy P σ ⟨some t,.box T x,ty,pos,af,g⟩=(zap (σ.ev x)).bind fun cs=>Zm σ.h t cs T:=_root_.id rfl
theorem zqK {T:TypeId}{x y:Operand}:Zy P σ ⟨none,.store T x y,ty,pos,af,g⟩=zaT P σ.h T (σ.ev x) (σ.ev y):=_root_.id rfl
theorem zi2 {T:TypeId}{n:Nat}{ps:List (Nat×Operand)}{t:Tmp}:Zy P σ ⟨some t,.buildSlice T n ps.toArray,ty,pos,af,g⟩=zdX P σ.h t T n (ps.map fun p=>(p.1,σ.ev p.2)):=_root_.id rfl
theorem zkV {T:TypeId}{x y:Operand}{t:Tmp}:Zy P σ ⟨some t,.makeSlice T x y,ty,pos,af,g⟩=zb1 P σ.h t T (σ.ev x) (σ.ev y):=_root_.id rfl
theorem zpc {x y:Operand}{T T':TypeId}{t:Tmp}:Zy P σ ⟨some t,.call ⟨.builtin .append, #[x,y], #[T,T']⟩,ty,pos,af,g⟩=if T=T' then zdu P σ.h t T (σ.ev x) (σ.ev y) else none:=_root_.id rfl
theorem zqL {x:Operand}{xs:Array Operand}{Ts:Array TypeId}:Zy P σ ⟨d,.call ⟨.value x,xs,Ts⟩,ty,pos,af,g⟩=none:=by cases d<;>rfl
theorem zqM {x:Operand}{m:String}{xs:Array Operand}{Ts:Array TypeId}:Zy P σ ⟨d,.call ⟨.invoke x m,xs,Ts⟩,ty,pos,af,g⟩=none:=by cases d<;>rfl
theorem zl2 {fn:Fn}{first caps:Array Operand}:Zy P σ ⟨d,.makeFunc fn first caps,ty,pos,af,g⟩=none:=by cases d<;>rfl
theorem zqN {T:TypeId}{x:Operand}:Zy P σ ⟨d,.range T x,ty,pos,af,g⟩=none:=by cases d<;>rfl
theorem ztg {x:Operand}{b:Bool}:Zy P σ ⟨d,.next x b,ty,pos,af,g⟩=none:=by cases d<;>rfl
theorem zqO {x:Operand}:Zy P σ ⟨d,.entry x,ty,pos,af,g⟩=none:=by cases d<;>rfl
theorem zqP {c:Call}:Zy P σ ⟨d,.defer c,ty,pos,af,g⟩=none:=by cases d<;>rfl
theorem zqQ {c:Call}:zhb σ ⟨d,.call c,ty,pos,af,g⟩=none:=_root_.id rfl
theorem zpd {T:TypeId}{x:Operand}:zhb σ ⟨d,.range T x,ty,pos,af,g⟩=none:=_root_.id rfl
theorem zqR {x:Operand}{b:Bool}:zhb σ ⟨d,.next x b,ty,pos,af,g⟩=none:=_root_.id rfl
theorem zpe {x:Operand}:zhb σ ⟨d,.entry x,ty,pos,af,g⟩=none:=_root_.id rfl
theorem zpf {c:Call}:zhb σ ⟨d,.defer c,ty,pos,af,g⟩=none:=_root_.id rfl
theorem zqS {fn:Fn}{first:Array Operand}{caps:List Operand}{t:Tmp}:zhb σ ⟨some t,.makeFunc fn first caps.toArray,ty,pos,af,g⟩=(zcL σ.h t fn first.isEmpty (caps.map σ.ev)).map fun q=>(σ.new q.1 q.2.1).put (some t) q.2.2:=_root_.id rfl
def zoa (P:Program)(h:Nat→Option Ow)(q:Option (FuncId×List Av×List TypeId)):Option (FuncId×List Av×List Nat):=
 match q with
 |some (f,xs,Ts)=>some (f,ZY P (xs.flatMap (Av.deep h)) h xs Ts,xs.flatMap (Av.deep h))
 |none=>none
theorem znb {h:Nat→Option Ow}{f:FuncId}{xs:List Av}{Ts:List TypeId}:zoa P h (some (f,xs,Ts))=some (f,ZY P (xs.flatMap (Av.deep h)) h xs Ts,xs.flatMap (Av.deep h)):=_root_.id rfl
theorem znc {h:Nat→Option Ow}:zoa P h none=none:=_root_.id rfl
theorem zwp {o:Oper}:Zh P σ o=zoa P σ.h (zy P σ o):=by
 unfold Zh zoa
 cases zy P σ o<;>rfl
theorem zth {f:FuncId}{xs:List Operand}{Ts:List TypeId}:zy P σ ⟨d,.call ⟨.value (.func f),xs.toArray,Ts.toArray⟩,ty,pos,af,g⟩=some (f,xs.map σ.ev,Ts):=_root_.id rfl
theorem zu3 {t:Tmp}{xs:List Operand}{Ts:List TypeId}:zy P σ ⟨d,.call ⟨.value (.tmp t),xs.toArray,Ts.toArray⟩,ty,pos,af,g⟩=(zam σ.h (σ.tmp t)).map fun q=>(q.1,xs.map σ.ev++q.2,Ts):=_root_.id rfl
theorem zpg {x:Operand}{m:String}{xs:List Operand}{Ts:List TypeId}:zy P σ ⟨d,.call ⟨.invoke x m,xs.toArray,Ts.toArray⟩,ty,pos,af,g⟩=(zab P σ.h (σ.ev x) m).map fun q=>(q.1,q.2::xs.map σ.ev,noT::Ts):=_root_.id rfl
theorem zqT {T:TypeId}{x:Operand}:zy P σ ⟨d,.range T x,ty,pos,af,g⟩=none:=_root_.id rfl
theorem zti {x:Operand}{b:Bool}:zy P σ ⟨d,.next x b,ty,pos,af,g⟩=none:=_root_.id rfl
theorem zqU {x:Operand}:zy P σ ⟨d,.entry x,ty,pos,af,g⟩=none:=_root_.id rfl
theorem zqV {c:Call}:zy P σ ⟨d,.defer c,ty,pos,af,g⟩=none:=_root_.id rfl
theorem znd {F:List Nat}{h:Nat→Option Ow}{Ts:List TypeId}:ZY P F h [] Ts= []:=_root_.id rfl
theorem zne {F:List Nat}{h:Nat→Option Ow}{x:Av}{xs:List Av}:ZY P F h (x::xs) []=zcO P F h x::ZY P F h xs []:=_root_.id rfl
theorem znf {F:List Nat}{h:Nat→Option Ow}{x:Av}{xs:List Av}{T:TypeId}{Ts:List TypeId}:ZY P F h (x::xs) (T::Ts)=(if T=noT then zcO P F h x else zmU P T (zcO P F h x))::ZY P F h xs Ts:=_root_.id rfl
end
theorem ztj {ops:Array Oper}{σ:St}{d:Option Tmp}{op:Op}{ty:TypeId}{pos:String}{af:Array Edge}:zW ops σ ⟨d,op,ty,pos,af,none⟩=some true:=_root_.id rfl
def gdA (w:Bool):Av→Option Bool
 | .c (.d (.v (.bool b)))=>some (b==w)
 | .tup []=>some false
 |_=>none
theorem zxV {w b:Bool}:gdA w (.c (.d (.v (.bool b))))=some (b==w):=_root_.id rfl
theorem zu4 {w:Bool}:gdA w (.tup [])=some false:=_root_.id rfl
def gdD (σ:St)(w:Bool):Option Tmp→Option Bool
 |none=>some false
 |some d=>gdA w (σ.tmp d)
theorem zqW {σ:St}{w:Bool}{t:Tmp}:gdD σ w (some t)=gdA w (σ.tmp t):=_root_.id rfl
theorem ztk {all:List Oper}{σ:St}{d:Option Tmp}{op:Op}{ty:TypeId}{pos:String}{af:Array Edge}{j:Nat}{w:Bool}:zW all.toArray σ ⟨d,op,ty,pos,af,some (j,w)⟩=gdD σ w ((nth all j).bind (·.dst)):=by
 unfold zW gdD gdA
 rw[zmY]
 simp only [List.getElem?_toArray]
 cases (all[j]?).bind (·.dst) with
 |none=>rfl
 |some t=>
  simp only
  split<;>simp_all
theorem zqX {o:Oper}{l:List Oper}:nth (o::l) 0=some o:=_root_.id rfl
theorem zqY {o:Oper}{l:List Oper}{i:Nat}:nth (o::l) (i+1)=nth l i:=_root_.id rfl
theorem zu5 {N:Nat}{t:Tmp}{op:Op}{ty:TypeId}{pos:String}{af:Array Edge}{g:Option (Nat×Bool)}:Zd N ⟨some t,op,ty,pos,af,g⟩=decide (t<N):=_root_.id rfl
theorem zqZ {N:Nat}{op:Op}{ty:TypeId}{pos:String}{af:Array Edge}{g:Option (Nat×Bool)}:Zd N ⟨none,op,ty,pos,af,g⟩=true:=_root_.id rfl
def zi3 (all:List Oper):List Oper→Option Tmp→Bool
 | [],_=>false
 |q::l,d=>(match q.guard with|some (j,_)=>decide ((nth all j).bind (·.dst)=d)|none=>false)||zi3 all l d
theorem zu6 {all:List Oper}{d:Option Tmp}:zi3 all [] d=false:=_root_.id rfl
theorem ztl {all l:List Oper}{d e:Option Tmp}{op:Op}{ty:TypeId}{pos:String}{af:Array Edge}:zi3 all (⟨e,op,ty,pos,af,none⟩::l) d=zi3 all l d:=by simp [zi3]
theorem ztm {all l:List Oper}{d e:Option Tmp}{op:Op}{ty:TypeId}{pos:String}{af:Array Edge}{j:Nat}{w:Bool}:zi3 all (⟨e,op,ty,pos,af,some (j,w)⟩::l) d=(decide ((nth all j).bind (·.dst)=d)||zi3 all l d):=by simp [zi3]
def Sel (g:Bool)(A B:Prop)(_:Tg (A∧B)):Prop:=match g with|true=>A|false=>B
theorem zq0 {A B:Prop}{t:Tg (A∧B)}:Sel true A B t=A:=_root_.id rfl
theorem zph {A B:Prop}{t:Tg (A∧B)}:Sel false A B t=B:=_root_.id rfl
def Kv (all:List Oper)(d:Option Tmp)(K:Av→Prop)(_:Tg (all,d,K))(r:Av):Prop:=K r
theorem ztn {all:List Oper}{d:Option Tmp}{K:Av→Prop}{t:Tg (all,d,K)}:Kv all d K t (.c (.d (.v (.bool true))))=K (.c (.d (.v (.bool true)))):=_root_.id rfl
theorem zq1 {all:List Oper}{d:Option Tmp}{K:Av→Prop}{t:Tg (all,d,K)}:Kv all d K t (.c (.d (.v (.bool false))))=K (.c (.d (.v (.bool false)))):=_root_.id rfl
theorem zxW {all:List Oper}{d:Option Tmp}{K:Av→Prop}{t:Tg (all,d,K)}{b:Bool}:Kv all d K t (.c (.d (.v (.bool b))))=Sel (zi3 all all d) (Br b (K (.c (.d (.v (.bool true))))) (K (.c (.d (.v (.bool false))))) ()) (K (.c (.d (.v (.bool b))))) ():=by
 cases b<;>cases zi3 all all d<;>rfl
theorem zu7 {all:List Oper}{d:Option Tmp}{K:Av→Prop}{t:Tg (all,d,K)}{r:Av}:Kv all d K t r=K r:=_root_.id rfl
section
variable {P:Program} {N:Nat} {w0:World} {S0:Env} {Q:Exit→St→Prop} {sc:Sch} {n:Nat} {k:List Fr} {tl:List (Nat×Av)} {hl:List (Nat×Ow)} {σ:St}
theorem zu8 {t:Tx P N w0 S0 Q sc []}:ex P N w0 S0 Q sc [] t (n+1) ⟨tl,hl⟩=Q .normal ⟨tl,hl⟩:=_root_.id rfl
theorem zwq {K:St→Prop}{t:Tx P N w0 S0 Q sc (.lp K::k)}:ex P N w0 S0 Q sc (.lp K::k) t (n+1) ⟨tl,hl⟩=K ⟨tl,hl⟩:=_root_.id rfl
theorem zu9 {i:Nat}{t:Tx P N w0 S0 Q sc (.blk i::k)}:ex P N w0 S0 Q sc (.blk i::k) t (n+1) ⟨tl,hl⟩=ex P N w0 S0 Q sc k () n ⟨tl,hl⟩:=_root_.id rfl
theorem zng {all:List Oper}{t:Tx P N w0 S0 Q sc (.ops all []::k)}:ex P N w0 S0 Q sc (.ops all []::k) t (n+1) ⟨tl,hl⟩=ex P N w0 S0 Q sc k () n ⟨tl,hl⟩:=_root_.id rfl
theorem zva {all l:List Oper}{d:Option Tmp}{op:Op}{ty:TypeId}{pos:String}{af:Array Edge}{g:Option (Nat×Bool)}{t:Tx P N w0 S0 Q sc (.ops all (⟨d,op,ty,pos,af,g⟩::l)::k)}:ex P N w0 S0 Q sc (.ops all (⟨d,op,ty,pos,af,g⟩::l)::k) t (n+1) ⟨tl,hl⟩=
  zlV (Zd N ⟨d,op,ty,pos,af,g⟩) (Ob (zW all.toArray ⟨tl,hl⟩ ⟨d,op,ty,pos,af,g⟩)
   (Ov (zJ P ⟨tl,hl⟩ ⟨d,op,ty,pos,af,g⟩) (fun r=>Kv all d (fun r=>ex P N w0 S0 Q sc (.ops all l::k) () n (St.put ⟨tl,hl⟩ d r)) () r) (Ov (Ze P ⟨tl,hl⟩ ⟨d,op,ty,pos,af,g⟩) (fun σ'=>ex P N w0 S0 Q sc (.ops all l::k) () n σ') (Ov (zhb ⟨tl,hl⟩ ⟨d,op,ty,pos,af,g⟩) (fun σ'=>ex P N w0 S0 Q sc (.ops all l::k) () n σ')
    (Nd P ⟨tl,hl⟩ ⟨d,op,ty,pos,af,g⟩ (fun σ'=>ex P N w0 S0 Q sc (.ops all l::k) () n σ') () (Zh P ⟨tl,hl⟩ ⟨d,op,ty,pos,af,g⟩)) ()) ()) ())
   (ex P N w0 S0 Q sc (.ops all l::k) () n (St.put ⟨tl,hl⟩ d (.tup []))) ()) ():=_root_.id rfl
theorem znh {all:List Oper}{B:List Nat}{t:Tx P N w0 S0 Q sc (.drw all B []::k)}:ex P N w0 S0 Q sc (.drw all B []::k) t (n+1) ⟨tl,hl⟩=ex P N w0 S0 Q sc k () n ⟨tl,hl⟩:=_root_.id rfl
theorem zvb {all:List Oper}{B:List Nat}{i:Nat}{As:List Nat}{is:List (Nat×List Nat)}{t:Tx P N w0 S0 Q sc (.drw all B ((i,As)::is)::k)}:ex P N w0 S0 Q sc (.drw all B ((i,As)::is)::k) t (n+1) ⟨tl,hl⟩=Ov (nth all i)
  (fun o=>asX P N all ⟨tl,hl⟩ o As∧zlV (Zd N o) (Ob (zW all.toArray ⟨tl,hl⟩ o)
   (Ov (zJ P ⟨tl,hl⟩ o) (fun r=>Kv all o.dst (fun r=>ex P N w0 S0 Q sc (.drw all B is::k) () n (St.put ⟨tl,hl⟩ o.dst r)) () r) (Ov (Ze P ⟨tl,hl⟩ o) (fun σ'=>ex P N w0 S0 Q sc (.drw all B is::k) () n σ') (Nw P B i ⟨tl,hl⟩ o (fun σ'=>ex P N w0 S0 Q sc (.drw all B is::k) () n σ') () (Zh P ⟨tl,hl⟩ o)) ()) ())
   (ex P N w0 S0 Q sc (.drw all B is::k) () n (St.put ⟨tl,hl⟩ o.dst (.tup []))) ()) ()) False ():=_root_.id rfl
theorem zvc {x y:Code}{t:Tx P N w0 S0 Q sc (.code (.seq x y)::k)}:ex P N w0 S0 Q sc (.code (.seq x y)::k) t (n+1) ⟨tl,hl⟩=ex P N w0 S0 Q sc (.code x:: .code y::k) () n ⟨tl,hl⟩:=_root_.id rfl
theorem zto {t:Tx P N w0 S0 Q sc (.code .skip::k)}:ex P N w0 S0 Q sc (.code .skip::k) t (n+1) ⟨tl,hl⟩=ex P N w0 S0 Q sc k () n ⟨tl,hl⟩:=_root_.id rfl
theorem zq2 {i:Nat}{t:Tx P N w0 S0 Q sc (.code (.label i)::k)}:ex P N w0 S0 Q sc (.code (.label i)::k) t (n+1) ⟨tl,hl⟩=ex P N w0 S0 Q sc k () n ⟨tl,hl⟩:=_root_.id rfl
theorem zq3 {i:Nat}{c:Code}{t:Tx P N w0 S0 Q sc (.code (.block i c)::k)}:ex P N w0 S0 Q sc (.code (.block i c)::k) t (n+1) ⟨tl,hl⟩=ex P N w0 S0 Q sc (.code c:: .blk i::k) () n ⟨tl,hl⟩:=_root_.id rfl
theorem zvd {t:Tx P N w0 S0 Q sc (.code .ret::k)}:ex P N w0 S0 Q sc (.code .ret::k) t (n+1) ⟨tl,hl⟩=Q .ret ⟨tl,hl⟩:=_root_.id rfl
theorem ztp {c:Operand}{x y:Code}{t:Tx P N w0 S0 Q sc (.code (.cond c x y)::k)}:ex P N w0 S0 Q sc (.code (.cond c x y)::k) t (n+1) ⟨tl,hl⟩=Tst (St.ev ⟨tl,hl⟩ c) (ex P N w0 S0 Q sc (.code x::k) () n ⟨tl,hl⟩) (ex P N w0 S0 Q sc (.code y::k) () n ⟨tl,hl⟩) ():=_root_.id rfl
theorem zpi {i:Nat}{l:List Oper}{t:Tx P N w0 S0 Q sc (.code (.region i l.toArray false)::k)}:ex P N w0 S0 Q sc (.code (.region i l.toArray false)::k) t (n+1) ⟨tl,hl⟩=ex P N w0 S0 Q sc (.ops l l::k) () n ⟨tl,hl⟩:=_root_.id rfl
def exD (P:Program)(N:Nat)(w0:World)(S0:Env)(Q:Exit→St→Prop)(sc:Sch)(k:List Fr)(i:Nat)(l:List Oper)(n:Nat)(tl:List (Nat×Av))(hl:List (Nat×Ow))(_:Tg (P,N,w0,S0,Q,sc,k,l,n,tl,hl))(q:Option (List Nat×List (Nat×List Nat))):Prop:=
 Ov q (fun q=>Dn P l q.1 q.2 (ex P N w0 S0 Q sc (.drw l q.1 q.2::k) () n ⟨tl,hl⟩) ()) (KQ P N w0 S0 Q (.code (.region i l.toArray true)::k) .normal ⟨tl,hl⟩) ()
theorem zq4 {i:Nat}{l:List Oper}{t:Tx P N w0 S0 Q sc (.code (.region i l.toArray true)::k)}:ex P N w0 S0 Q sc (.code (.region i l.toArray true)::k) t (n+1) ⟨tl,hl⟩=exD P N w0 S0 Q sc k i l n tl hl () (zd sc i):=_root_.id rfl
theorem zq5 {i:Nat}{l:List Oper}{B:List Nat}{is:List (Nat×List Nat)}{t:Tg (P,N,w0,S0,Q,sc,k,l,n,tl,hl)}:exD P N w0 S0 Q sc k i l n tl hl t (some (B,is))=Dn P l B is (ex P N w0 S0 Q sc (.drw l B is::k) () n ⟨tl,hl⟩) ():=_root_.id rfl
def unw (P:Program)(N:Nat)(w0:World)(S0:Env)(Q:Exit→St→Prop)(sc:Sch)(k k0:List Fr)(_:Tx P N w0 S0 Q sc k)(_:Tg k0)(i n:Nat)(σ:St):Prop:=Ov (zd3 i k) (fun k'=>exR P N w0 S0 Q sc n k' σ) (KQ P N w0 S0 Q k0 (.exit i) σ) ()
theorem ztq {i:Nat}{t:Tx P N w0 S0 Q sc (.code (.exit i)::k)}:ex P N w0 S0 Q sc (.code (.exit i)::k) t (n+1) ⟨tl,hl⟩=unw P N w0 S0 Q sc k k () () i n ⟨tl,hl⟩:=_root_.id rfl
theorem ztr {i:Nat}{k0:List Fr}{t:Tx P N w0 S0 Q sc (.blk i::k)}{u:Tg k0}:unw P N w0 S0 Q sc (.blk i::k) k0 t u i n σ=ex P N w0 S0 Q sc k () n σ:=by simp [unw,zd3,Ov,ex]
theorem zq6 {i:Nat}{c:Code}{k0:List Fr}{t:Tx P N w0 S0 Q sc (.code c::k)}{u:Tg k0}:unw P N w0 S0 Q sc (.code c::k) k0 t u i n σ=unw P N w0 S0 Q sc k k0 () () i n σ:=_root_.id rfl
theorem zts {i:Nat}{a b:List Oper}{k0:List Fr}{t:Tx P N w0 S0 Q sc (.ops a b::k)}{u:Tg k0}:unw P N w0 S0 Q sc (.ops a b::k) k0 t u i n σ=unw P N w0 S0 Q sc k k0 () () i n σ:=_root_.id rfl
theorem zve {i:Nat}{K:St→Prop}{k0:List Fr}{t:Tx P N w0 S0 Q sc (.lp K::k)}{u:Tg k0}:unw P N w0 S0 Q sc (.lp K::k) k0 t u i n σ=unw P N w0 S0 Q sc k k0 () () i n σ:=_root_.id rfl
def zvf (R:Av→Prop)(_:Tg R)(r:Av):Prop:=R r
def zob (R:Av→List (Nat×Ow)→Prop)(_:Tg R)(r:Av)(own:List (Nat×Ow)):Prop:=R r own
def zq7 (P:Program)(σ:St)(r:Av):Av:=zcO P (Av.deep σ.h r) σ.h r
theorem ztt {r:Av}:zq7 P ⟨tl,hl⟩ r=zcO P (Av.deep (zd hl) r) (zd hl) r:=_root_.id rfl
def Fx (R:Av→Prop)(_:Tg R)(r:Av):Prop:=r.isD=true∧R r
theorem zwr {R:Av→Prop}{t:Tg R}{r:Av}:Fx R t r=zlV r.isD (zvf R () r) ():=_root_.id rfl
def ztu (P:Program)(rs:List ResultVar)(R:Av→Prop):Exit→St→Prop
 | .normal,σ| .ret,σ=>Ov (zdx P σ rs) (fun r=>Fx R () (zq7 P σ r)) False ()
 |_,_=>False
theorem zvg {rs:List ResultVar}{R:Av→Prop}:ztu P rs R .normal ⟨tl,hl⟩=Ov (zdx P ⟨tl,hl⟩ rs) (fun r=>Fx R () (zq7 P ⟨tl,hl⟩ r)) False ():=_root_.id rfl
theorem zvh {rs:List ResultVar}{R:Av→Prop}:ztu P rs R .ret ⟨tl,hl⟩=Ov (zdx P ⟨tl,hl⟩ rs) (fun r=>Fx R () (zq7 P ⟨tl,hl⟩ r)) False ():=_root_.id rfl
def zjJ (P:Program)(rs:List ResultVar)(R:Av→List (Nat×Ow)→Prop):Exit→St→Prop
 | .normal,σ| .ret,σ=>Ov (zdx P σ rs) (fun r=>zob R () r (zZ σ.own)) False ()
 |_,_=>False
theorem ztv {rs:List ResultVar}{R:Av→List (Nat×Ow)→Prop}:zjJ P rs R .normal ⟨tl,hl⟩=Ov (zdx P ⟨tl,hl⟩ rs) (fun r=>zob R () r (zZ hl)) False ():=_root_.id rfl
theorem ztw {rs:List ResultVar}{R:Av→List (Nat×Ow)→Prop}:zjJ P rs R .ret ⟨tl,hl⟩=Ov (zdx P ⟨tl,hl⟩ rs) (fun r=>zob R () r (zZ hl)) False ():=_root_.id rfl
theorem ztx {rs:List ResultVar}{R:Av→Prop}{e:Exit}(h:ztu P rs R e σ):zwl P rs R e σ:=by
 have key:Ov (zdx P σ rs) (fun r=>Fx R () (zq7 P σ r)) False ()→Fin P rs R σ:=fun h=>by
  cases hr:zdx P σ rs with
  |none=>rw[hr] at h;exact h.elim
  |some r=>rw[hr] at h;exact ⟨r,_,hr,h.1,AvLe.refl _,h.2⟩
 cases e<;>first|exact key h|exact h.elim
theorem zh7 {rs:List ResultVar}{R:Av→List (Nat×Ow)→Prop}{e:Exit}(h:zjJ P rs R e σ):zqf P rs R e σ:=by
 have key:Ov (zdx P σ rs) (fun r=>zob R () r (zZ σ.own)) False ()→zsR P rs R σ:=fun h=>by
  cases hr:zdx P σ rs with
  |none=>rw[hr] at h;exact h.elim
  |some r=>rw[hr] at h;exact ⟨r,hr,h⟩
 cases e<;>first|exact key h|exact h.elim
theorem zq8 {x:Av}:eqS (some x) (some x)=True:=by simp [eqS]
end
theorem zf {P:Program}{f:FuncId}{fn:Func}{c:Code}{args:List Av}{R:Av→Prop}{N:Nat}{rs:List ResultVar}(sc:Sch)(hf:P.funcs[f]? =some fn)(hn:(fn.name== "runtime.NumGoroutine")=false)(hb:fn.body=some c)(hN:fn.ntmps=N)(hrs:fn.results=rs.toArray)(hl:args.length≤N)
  (h:(∀x∈args,okA P x)→∀w0 S0,ex P N w0 S0 (ztu P rs R) sc [.code c] () 100000 ⟨ZZ 0 args,[]⟩):ACalls P f args R:=
 zoT hf hn hb hN hrs hl fun hok w0 S0=>(zlW (h hok w0 S0)).mono fun _ _=>ztx
theorem zaj {P:Program}{f:FuncId}{fn:Func}{c:Code}{args:List Av}{own:List (Nat×Ow)}{R:Av→List (Nat×Ow)→Prop}{N:Nat}{rs:List ResultVar}(sc:Sch)(hf:P.funcs[f]? =some fn)(hn:(fn.name== "runtime.NumGoroutine")=false)(hb:fn.body=some c)(hN:fn.ntmps=N)(hrs:fn.results=rs.toArray)(hl:args.length≤N)
  (h:(∀x∈args,x.isD=true→okA P x)→∀w0 S0,ex P N w0 S0 (zjJ P rs R) sc [.code c] () 100000 ⟨ZZ 0 args,own⟩):AProc P f args own R:=
 zfH hf hn hb hN hrs hl fun hok w0 S0=>(zlW (h hok w0 S0)).mono fun _ _=>zh7
section
variable {P:Program} {N:Nat} {w0:World} {S0:Env} {ops:Array Oper}
variable (P N ops) in
def zpj (K:St→Prop):Nat→Array Bool→St→Prop
 |0,listed,σ=>Region.ready .any ops listed= []∧K σ
 |n+1,listed,σ=>(Region.ready .any ops listed= []→K σ)∧∀i∈Region.ready .any ops listed,∃o,ops[i]? =some o∧opX P N ops σ o fun σ'=>zpj K n (listed.setIfInBounds i true) σ'
theorem zez {K:St→Prop}{Q:Exit→Act→World→Prop}(hQ:∀β σ a w,K σ→Sim P N w0 S0 β σ a w→Q .normal a w):∀(n:Nat) (listed:Array Bool) (β:Nat→Value) (σ:St) (a:Act) (w:World),zpj P N ops K n listed σ→Sim P N w0 S0 β σ a w→wpAny P .any ops Q n listed a w
 |0,listed,β,σ,a,w,h,s=>⟨h.1,hQ β σ a w h.2 s⟩
 |n+1,listed,β,σ,a,w,h,s=>⟨fun hr=>hQ β σ a w (h.1 hr) s,fun i hi=>by
  obtain ⟨o,ho,hop⟩:=h.2 i hi
  have h1:=zn4 (Q:=Q) s hop
  unfold wpOp
  simp only [ho]
  split at h1
  ·next hw=>rw[if_pos hw];exact .inl (Oper.wp_mono (fun a w ⟨β',σ',h2,h3⟩=>zez hQ n _ β' σ' a w h2 h3) h1)
  ·next hw=>
   rw[if_neg hw]
   obtain ⟨β',σ',h2,h3⟩:=h1
   exact zez hQ n _ β' σ' _ w h2 h3⟩
def unl (n:Nat)(listed:Array Bool):Nat:=((List.range n).filter fun i=> !listed.getD i true).length
theorem zjK {α:Type}{p q:α→Bool}:∀{l:List α},(∀x∈l,q x=true→p x=true)→(l.filter q).length≤(l.filter p).length
 | [],_=>by simp
 |y::l,h=>by
  have ih:=zjK (l:=l) fun x hx=>h x (List.mem_cons_of_mem _ hx)
  have hy:=h y (List.mem_cons_self ..)
  cases hq:q y with
  |true=>simp [List.filter_cons,hq,hy hq];exact ih
  |false=>cases hp:p y<;>simp [List.filter_cons,hq,hp]<;>omega
theorem zgT {α:Type}{p q:α→Bool}:∀{l:List α},(∀x∈l,q x=true→p x=true)→(∃x∈l,p x=true∧q x=false)→(l.filter q).length<(l.filter p).length
 | [],_,h=>by obtain ⟨x,hx,_⟩:=h;cases hx
 |y::l,hpq,h=>by
  have hle:(l.filter q).length≤(l.filter p).length:=zjK fun x hx=>hpq x (List.mem_cons_of_mem _ hx)
  obtain ⟨x,hx,h1,h2⟩:=h
  rcases List.mem_cons.1 hx with rfl|hx
  ·simp [List.filter_cons,h1,h2];omega
  ·have ih:=zgT (fun x hx=>hpq x (List.mem_cons_of_mem _ hx)) ⟨x,hx,h1,h2⟩
   have hy:=hpq y (List.mem_cons_self ..)
   cases hq:q y with
   |true=>simp [List.filter_cons,hq,hy hq];exact ih
   |false=>cases hp:p y<;>simp [List.filter_cons,hq,hp]<;>omega
theorem zc5 {listed:Array Bool}{i:Nat}(h:i<listed.size)(x y:Bool):listed.getD i x=listed.getD i y:=by simp [h]
theorem zdi {n:Nat}{listed:Array Bool}{i:Nat}(hs:listed.size=n)(hi:i<n)(h:listed.getD i true=false):unl n (listed.setIfInBounds i true)<unl n listed:=by
 refine zgT (fun x hx hq=>?_) ⟨i,List.mem_range.2 hi,by rw[h];rfl,?_⟩
 ·by_cases e:i=x
  ·subst e;rw[h];rfl
  ·have hx:=List.mem_range.1 hx
   simpa [Array.getElem?_setIfInBounds,e,hs,hx] using hq
 ·simp [hs,hi]
def zi4 (ops:Array Oper):List Nat→List Nat→Bool
 |_,[]=>true
 |done,i::is=>(match ops[i]? with|some o=>o.after.all fun e=> !Region.binds .any e||done.contains e.on|none=>false) && zi4 ops (i::done) is
theorem zd4 {listed:Array Bool}:∀{is done:List Nat},zi4 ops done is=true→(∀i∈done,listed.getD i false=true)→listed.size=ops.size→(∃i∈is,listed.getD i true=false)→∃i,i∈Region.ready .any ops listed
 | [],_,_,_,_,h=>by obtain ⟨i,hi,_⟩:=h;cases hi
 |i::is,done,ht,hd,hs,h=>by
  simp only [zi4,Bool.and_eq_true] at ht
  obtain ⟨h1,h2⟩:=ht
  cases hl:listed.getD i true with
  |false=>
   refine ⟨i,mem_ready.2 ⟨hl,?_⟩⟩
   cases ho:ops[i]? with
   |none=>rw[ho] at h1;cases h1
   |some o=>
    rw[ho] at h1
    refine ⟨o,rfl,fun e he hb=>?_⟩
    have:=(Array.all_eq_true_iff_forall_mem.1 h1) e he
    simp only [hb,Bool.not_true,Bool.false_or] at this
    exact hd e.on (by simpa using this)
  |true=>
   obtain ⟨j,hj,hjl⟩:=h
   have hij:j≠i:=fun e=>by rw[e,hl] at hjl;cases hjl
   refine zd4 h2 (fun k hk=>?_) hs ⟨j,(List.mem_cons.1 hj).resolve_left hij,hjl⟩
   rcases List.mem_cons.1 hk with rfl|hk
   ·have hlt:k<listed.size:=by
     rw[hs]
     cases ho:ops[k]? with
     |none=>rw[ho] at h1;cases h1
     |some o=>exact (Array.getElem?_eq_some_iff.1 ho).1
    rw[zc5 hlt false true];exact hl
   ·exact hd k hk
def ze (full base:List (Nat×Av))(t:Nat):Av:=match zd full t with|some x=>x|none=>(zd base t).getD .any
structure DOk (P:Program) (N:Nat) (ops:Array Oper) (c:Nat) (full base:List (Nat×Av)) (own0 own1:List (Nat×Ow)):Prop where
 gd:∀(i:Nat) (o:Oper),ops[i]? =some o→o.guard=none
 dst:∀(i:Nat) (o:Oper),ops[i]? =some o→i≠c→Zd N o=true∧∃d,o.dst=some d∧(zd full d).isSome=true
 dep:∀(i:Nat) (o:Oper),ops[i]? =some o→∀t∈o.looksAt ops,∀(j:Nat) (oj:Oper),ops[j]? =some oj→oj.dst=some t→∃e∈o.after,Region.binds .any e=true∧e.on=j
 key:∀t,(zd full t).isSome=true→∃(j:Nat) (oj:Oper),ops[j]? =some oj∧oj.dst=some t
 v0:∀(i:Nat) (o:Oper) (d:Tmp),ops[i]? =some o→i≠c→o.dst=some d→zax ops 64 i c=true∨zJ P ⟨full++base,own0⟩ o=some (ze full base d)
 v1:∀(i:Nat) (o:Oper) (d:Tmp),ops[i]? =some o→i≠c→o.dst=some d→zax ops 64 c i=true∨zJ P ⟨full++base,own1⟩ o=some (ze full base d)
 eff:∀(o:Oper),ops[c]? =some o→∀σ:St,σ.own=own0→(∀x∈o.op.operands,σ.ev x=(St.mk (full++base) own0).ev x)→(∀t,σ.tmp t=ze full base t∨σ.tmp t=(zd base t).getD .any)→
  ∀K:St→Prop,(∀σ':St,σ'.h=zd own1→(∀t,σ'.tmp t=if o.dst=some t then ze full base t else σ.tmp t)→K σ')→zhH P N σ o K
theorem zdB (full base:List (Nat×Av))(own:List (Nat×Ow))(t:Nat):(St.mk (full++base) own).tmp t=ze full base t:=by
 simp only [St.tmp,zaw,ze]
 cases zd full t<;>rfl
structure AtL (ops:Array Oper) (c:Nat) (full base:List (Nat×Av)) (own0 own1:List (Nat×Ow)) (listed:Array Bool) (σ:St):Prop where
 o0:listed.getD c false=false→σ.own=own0
 o1:listed.getD c false=true→σ.h=zd own1
 t1:∀(j:Nat) (oj:Oper) (t:Tmp),ops[j]? =some oj→oj.dst=some t→listed.getD j false=true→σ.tmp t=ze full base t
 t0:∀t:Tmp,(∀(j:Nat) (oj:Oper),ops[j]? =some oj→oj.dst=some t→listed.getD j false=false)→σ.tmp t=(zd base t).getD .any
theorem AtL.sees {c:Nat}{full base:List (Nat×Av)}{own0 own1:List (Nat×Ow)}{listed:Array Bool}{σ:St}(A:AtL ops c full base own0 own1 listed σ)(D:DOk P N ops c full base own0 own1){i:Nat}{o:Oper}(ho:ops[i]? =some o)(hr:∀e∈o.after,Region.binds .any e=true→listed.getD e.on false=true)(own:List (Nat×Ow)):
  ∀x∈o.op.operands,σ.ev x=(St.mk (full++base) own).ev x:=by
 refine zO (ops:=ops) fun t ht=>?_
 rw[zdB]
 by_cases hj:∃(j:Nat) (oj:Oper),ops[j]? =some oj∧oj.dst=some t
 ·obtain ⟨j,oj,h1,h2⟩:=hj
  obtain ⟨e,he,hb,rfl⟩:=D.dep i o ho t ht j oj h1 h2
  exact A.t1 _ oj t h1 h2 (hr e he hb)
 ·rw[A.t0 t fun j oj h1 h2=>absurd ⟨j,oj,h1,h2⟩ hj]
  unfold ze
  cases hf:zd full t with
  |none=>rfl
  |some x=>obtain ⟨j,oj,h1,h2⟩:=D.key t (by rw[hf];rfl);exact absurd ⟨j,oj,h1,h2⟩ hj
theorem zty {c:Nat}{full base:List (Nat×Av)}{own0 own1:List (Nat×Ow)}{K:St→Prop}(D:DOk P N ops c full base own0 own1){is:List Nat}(ht:zi4 ops [] is=true)(hall:∀i,i<ops.size→i∈is)(hc:c<ops.size)
  (hK:∀σ:St,σ.h=zd own1→(∀t,σ.tmp t=ze full base t)→K σ):∀(n:Nat) (listed:Array Bool) (σ:St),listed.size=ops.size→unl ops.size listed≤n→Closed ops listed→AtL ops c full base own0 own1 listed σ→zpj P N ops K n listed σ:=by
 have fin:∀(listed:Array Bool) (σ:St),listed.size=ops.size→Region.ready .any ops listed= []→AtL ops c full base own0 own1 listed σ→K σ:=fun listed σ hs hr A=>by
  have hl:∀i,i<ops.size→listed.getD i false=true:=fun i hi=>by
   rw[zc5 (by rw[hs];exact hi) false true]
   cases hq:listed.getD i true with
   |true=>rfl
   |false=>
    obtain ⟨j,hj⟩:=zd4 ht (fun _ h=>by cases h) hs ⟨i,hall i hi,hq⟩
    rw[hr] at hj;cases hj
  refine hK σ (A.o1 (hl c hc)) fun t=>?_
  by_cases hj:∃(j:Nat) (oj:Oper),ops[j]? =some oj∧oj.dst=some t
  ·obtain ⟨j,oj,h1,h2⟩:=hj
   exact A.t1 j oj t h1 h2 (hl j (Array.getElem?_eq_some_iff.1 h1).1)
  ·rw[A.t0 t fun j oj h1 h2=>absurd ⟨j,oj,h1,h2⟩ hj]
   unfold ze
   cases hf:zd full t with
   |none=>rfl
   |some x=>obtain ⟨j,oj,h1,h2⟩:=D.key t (by rw[hf];rfl);exact absurd ⟨j,oj,h1,h2⟩ hj
 intro n
 induction n with
 |zero=>
  intro listed σ hs hu hcl A
  have hr:Region.ready .any ops listed= []:=by
   cases hq:Region.ready .any ops listed with
   |nil=>rfl
   |cons i l=>
    obtain ⟨h1,o,ho,_⟩:=mem_ready.1 (show i∈Region.ready .any ops listed by rw[hq];exact List.mem_cons_self ..)
    have:=zdi hs (Array.getElem?_eq_some_iff.1 ho).1 h1
    omega
  exact ⟨hr,fin listed σ hs hr A⟩
 |succ n ih=>
  intro listed σ hs hu hcl A
  refine ⟨fun hr=>fin listed σ hs hr A,fun i hi=>?_⟩
  obtain ⟨hl,o,ho,hr⟩:=mem_ready.1 hi
  have hin:=(Array.getElem?_eq_some_iff.1 ho).1
  have hli:listed.getD i false=false:=by rw[zc5 (by rw[hs];exact hin) false true];exact hl
  have hg:=D.gd i o ho
  have hset:∀j,(listed.setIfInBounds i true).getD j false=if i=j then true else listed.getD j false:=fun j=>by
   by_cases e:i=j
   ·subst e;simp [hs,hin]
   ·rw[if_neg e];exact getD_set_ne false e
  have nxt:∀σ',(i≠c→σ'.own=σ.own)→(i=c→σ'.h=zd own1)→(∀t,σ'.tmp t=if o.dst=some t then ze full base t else σ.tmp t)→zpj P N ops K n (listed.setIfInBounds i true) σ':=fun σ' h1 h2 h3=>by
   refine ih _ σ' (by simp [hs]) (by have:=zdi hs hin hl;omega) (hcl.set hi) ⟨fun h=>?_,fun h=>?_,fun j oj t hj hd hlj=>?_,fun t hno=>?_⟩
   ·rw[hset] at h
    by_cases e:i=c
    ·rw[if_pos e] at h;cases h
    ·rw[if_neg e] at h;rw[h1 e];exact A.o0 h
   ·rw[hset] at h
    by_cases e:i=c
    ·exact h2 e
    ·rw[if_neg e] at h
     have:σ'.h=σ.h:=by show zd σ'.own=zd σ.own;rw[h1 e]
     rw[this];exact A.o1 h
   ·rw[h3]
    by_cases e:o.dst=some t
    ·rw[if_pos e]
    ·rw[if_neg e]
     rw[hset] at hlj
     by_cases ej:i=j
     ·subst ej;rw[ho] at hj;cases hj;exact absurd hd e
     ·rw[if_neg ej] at hlj;exact A.t1 j oj t hj hd hlj
   ·rw[h3]
    have hne:o.dst≠some t:=fun e=>by
     have:=hno i o ho e
     rw[hset,if_pos rfl] at this;cases this
    rw[if_neg hne]
    refine A.t0 t fun j oj hj hd=>?_
    have:=hno j oj hj hd
    rw[hset] at this
    by_cases ej:i=j
    ·rw[if_pos ej] at this;cases this
    ·rw[if_neg ej] at this;exact this
  refine ⟨o,ho,?_⟩
  unfold opX
  have hgo:zW ops σ o=some true:=by unfold zW;rw[hg]
  rw[hgo]
  refine ⟨fun _=>?_,fun h=>by cases h⟩
  by_cases hic:i=c
  ·subst hic
   refine D.eff o ho σ (A.o0 hli) (A.sees D ho hr own0) (fun t=>?_) _ fun σ' h1 h2=>nxt σ' (fun h=>absurd rfl h) (fun _=>h1) h2
   by_cases hj:∃(j:Nat) (oj:Oper),ops[j]? =some oj∧oj.dst=some t∧listed.getD j false=true
   ·obtain ⟨j,oj,h1,h2,h3⟩:=hj
    exact .inl (A.t1 j oj t h1 h2 h3)
   ·refine .inr (A.t0 t fun j oj h1 h2=>?_)
    cases hq:listed.getD j false with
    |false=>rfl
    |true=>exact absurd ⟨j,oj,h1,h2,hq⟩ hj
  ·obtain ⟨hdk,d,hd,hfd⟩:=D.dst i o ho hic
   have hv:zJ P σ o=some (ze full base d):=by
    cases hq:listed.getD c false with
    |false=>
     rcases D.v0 i o d ho hic hd with h|h
     ·have:=zac hcl 64 i h fun o' ho'=>by rw[ho] at ho';cases ho';exact hr
      rw[hq] at this;cases this
     ·rw[←h]
      refine zaC (A.sees D ho hr own0) ?_
      show zd σ.own=zd own0
      rw[A.o0 hq]
    |true=>
     rcases D.v1 i o d ho hic hd with h|h
     ·have:=zac hcl 64 c h fun o' ho'=>hcl c o' ho' hq
      rw[hli] at this;cases this
     ·rw[←h]
      refine zaC (A.sees D ho hr own1) ?_
      exact A.o1 hq
   refine ⟨hdk,?_⟩
   rw[hv]
   refine nxt _ (fun _=>by rw[hd];rfl) (fun h=>absurd h hic) fun t=>?_
   rw[Zl]
   by_cases e:o.dst=some t
   ·rw[if_pos e,if_pos e]
    rw[hd] at e;cases e;rfl
   ·rw[if_neg e,if_neg e]
theorem zpk {id:Nat}{l:List Oper}{Q:Exit→St→Prop}{base:List (Nat×Av)}{own0:List (Nat×Ow)}(hm:P.follows .mixedOrders=true)(c:Nat)(is:List Nat)(full:List (Nat×Av))(own1:List (Nat×Ow))
  (D:DOk P N l.toArray c full base own0 own1) (ht:zi4 l.toArray [] is=true) (hall:(List.range l.toArray.size).all is.contains=true) (hc:c<l.toArray.size) (h:Q .normal ⟨full++base,own1⟩):AWp P N w0 S0 (.region id l.toArray true) Q ⟨base,own0⟩:=fun β a w s=>by
 have hcl:Closed l.toArray (Array.replicate l.toArray.size false):=fun j o ho hl=>by
  rw[Array.getD_eq_getD_getElem?,Array.getElem?_replicate] at hl
  split at hl<;>cases hl
 have hlf:∀i,(Array.replicate l.toArray.size false).getD i false=false:=fun i=>by
  rw[Array.getD_eq_getD_getElem?,Array.getElem?_replicate];split<;>rfl
 have h1:=zty (K:=fun σ=>∃τ,Eqv τ σ∧Q .normal τ) D ht (fun i hi=>by simpa using List.all_eq_true.1 hall i (List.mem_range.2 hi)) hc
  (fun σ h2 h3=>⟨⟨full++base,own1⟩,⟨fun t=>by rw[zdB,h3],h2.symm⟩,h⟩) l.toArray.size (Array.replicate l.toArray.size false) ⟨base,own0⟩ (by simp) (by
   have:=List.length_filter_le (fun i=> !(Array.replicate l.toArray.size false).getD i true) (List.range l.toArray.size)
   rw[List.length_range] at this;exact this) hcl ⟨fun _=>rfl,fun h=>(by rw[hlf] at h;cases h),fun j oj t _ _ h=>(by rw[hlf] at h;cases h),fun t _=>rfl⟩
 refine wp_region_any hm (zez (fun β σ a w ⟨τ,e,hq⟩ s=>⟨β,τ,hq,s.eqv e.symm⟩) _ _ β _ a _ h1 (s.grow (w':=w.drew) ?_).1)
 exact (Ext.refl w).drew
theorem zd5 {σ:St}{o:Oper}(hp:Zu o.op=true):zJ P σ o=none:=by
 obtain ⟨dst,op,type,pos,after,guard⟩:=o
 cases op<;>simp only [Zu,Bool.false_eq_true] at hp<;>simp only [zJ]
 case call c=>
  unfold Zw
  split
  ·next hc=>simp [hc] at hp
  ·next hc=>simp [hc] at hp
  ·rfl
theorem zl3 {σ:St}{full base:List (Nat×Av)}{own0 own1:List (Nat×Ow)}{o:Oper}{f:FuncId}{xs args:List Av}{Ts:List TypeId}{ownA ownB:List (Nat×Ow)}{ρ:List (Nat×Nat)}{r0:Av}{d:Tmp}(t:Nat)(hp:Zu o.op=true)(hd:o.dst=some d)(hdk:Zd N o=true)
  (hc:zy P ⟨full++base,own0⟩ o=some (f,xs,Ts)) (hx:ZY P [] (zd own0) xs Ts=args.map (Av.ren (ZC ρ t))) (ho:zce ρ args ownA=true) (hh:zb2 (zd own0) (ZC ρ t) ownA) (hR:AProc P f args ownA fun r own'=>r=r0∧own'=ownB)
  (hb:ZI ⟨[],own0⟩ ρ t ownB=true) (h1:zcM (Ow.fix (zd (zT ⟨[],own0⟩ ρ t ownB))) (zT ⟨[],own0⟩ ρ t ownB)=own1) (hv:(r0.ren (ZC ρ t)).fix (zd (zT ⟨[],own0⟩ ρ t ownB))=ze full base d)
  (hfix:∀p∈full++base,p.2.fix (zd (zT ⟨[],own0⟩ ρ t ownB))=p.2)
  (e0:σ.own=own0) (e1:∀x∈o.op.operands,σ.ev x=(St.mk (full++base) own0).ev x) (e2:∀t,σ.tmp t=ze full base t∨σ.tmp t=(zd base t).getD .any) (K:St→Prop)
  (hK:∀σ':St,σ'.h=zd own1→(∀t,σ'.tmp t=if o.dst=some t then ze full base t else σ.tmp t)→K σ'):zhH P N σ o K:=by
 have hsh:σ.h=zd own0:=by show zd σ.own=_;rw[e0]
 have hH:zT σ ρ t ownB=zT ⟨[],own0⟩ ρ t ownB:=by unfold zT;rw[e0]
 have hfx:∀t',(σ.tmp t').fix (zd (zT ⟨[],own0⟩ ρ t ownB))=σ.tmp t':=fun t'=>by
  have hl:∀{l:List (Nat×Av)},(∀p∈l,p∈full++base)→∀x,zd l t'=some x→x.fix (zd (zT ⟨[],own0⟩ ρ t ownB))=x:=fun {l} hl x hx=>hfix _ (hl _ (Zn hx))
  rcases e2 t' with h|h<;>rw[h]
  ·unfold ze
   cases hq:zd full t' with
   |some x=>exact hl (fun p hp=>List.mem_append_left _ hp) x hq
   |none=>
    cases hq2:zd base t' with
    |some x=>exact hl (fun p hp=>List.mem_append_right _ hp) x hq2
    |none=>rfl
  ·cases hq2:zd base t' with
   |some x=>exact hl (fun p hp=>List.mem_append_right _ hp) x hq2
   |none=>rfl
 refine ⟨hdk,?_⟩
 rw[zd5 hp,zbw (zbT hp)]
 refine .inr (.proc (t:=t) (ρ:=ρ) (own0:=ownA) (args:=args) (by rw[zb3 e1 hsh,hc]) (by rw[hsh];exact hx) ho (by rw[hsh];exact hh) hR ?_)
 rintro r own' ⟨rfl,rfl⟩
 refine ⟨by unfold ZI at hb ⊢;rw[e0];exact hb,hK _ ?_ fun t'=>?_⟩
 ·rw[ZG]
  show zd (σ.back ρ t own').own=_
  unfold St.back
  simp only [hH,h1]
 ·rw[Zl,hH,hv,hd]
  by_cases e:some d=some t'
  ·rw[if_pos e,if_pos e];cases e;rfl
  ·rw[if_neg e,if_neg e]
   have:(σ.back ρ t own').tmp t'=(σ.tmp t').fix (zd (zT σ ρ t own')):=by
    unfold St.back St.tmp
    simp only [zcm,zbJ,zaU]
    cases zd σ.tmps t'<;>rfl
   rw[this,hH];exact hfx t'
def zws (N:Nat)(ops:Array Oper)(c:Nat)(is:List Nat)(ks:List Nat):Bool:=
 (List.range ops.size).all (fun i=>match ops[i]? with
  |some o=>o.guard.isNone && Zd N o && (match o.dst with|some d=>ks.contains d|none=>false) &&
   (o.looksAt ops).all (fun t=>(List.range ops.size).all fun j=>(match ops[j]? with|some oj=> !(oj.dst==some t)||o.after.any (fun e=>Region.binds .any e && e.on==j)|none=>true))
  |none=>false) &&
 ks.all (fun t=>(List.range ops.size).any fun j=>match ops[j]? with|some oj=>oj.dst==some t|none=>false) &&
 zi4 ops [] is && (List.range ops.size).all is.contains && decide (c<ops.size)
def zgt (P:Program)(ops:Array Oper)(full base:List (Nat×Av))(own:List (Nat×Ow))(skip:Nat→Bool):List Nat→Prop
 | []=>True
 |i::is=>(skip i=true∨∃o d,nth ops.toList i=some o∧o.dst=some d∧zJ P ⟨full++base,own⟩ o=some (ze full base d))∧zgt P ops full base own skip is
theorem zcA {full base:List (Nat×Av)}{own:List (Nat×Ow)}{skip:Nat→Bool}:∀{is:List Nat},zgt P ops full base own skip is→∀i∈is,skip i=false→∀o d,ops[i]? =some o→o.dst=some d→zJ P ⟨full++base,own⟩ o=some (ze full base d)
 | [],_,i,hi,_,_,_,_,_=>by cases hi
 |j::is,⟨h,t⟩,i,hi,hs,o,d,ho,hd=>by
  rcases List.mem_cons.1 hi with rfl|hi
  ·rcases h with h|⟨o',d',h1,h2,h3⟩
   ·rw[hs] at h;cases h
   ·have:=ZQ h1
    rw[ho] at this;cases this
    rw[hd] at h2;cases h2
    exact h3
  ·exact zcA t i hi hs o d ho hd
theorem zni {id:Nat}{l:List Oper}{Q:Exit→St→Prop}{base:List (Nat×Av)}{own0:List (Nat×Ow)}(hm:P.follows .mixedOrders=true)(c:Nat)(is:List Nat)(full:List (Nat×Av))(own1:List (Nat×Ow))
  (hok:zws N l.toArray c is (full.map (·.1))=true) (h0:zgt P l.toArray full base own0 (fun i=>i==c||zax l.toArray 64 i c) is) (h1:zgt P l.toArray full base own1 (fun i=>i==c||zax l.toArray 64 c i) is)
  (he:∀(o:Oper),l.toArray[c]? =some o→∀σ:St,σ.own=own0→(∀x∈o.op.operands,σ.ev x=(St.mk (full++base) own0).ev x)→(∀t,σ.tmp t=ze full base t∨σ.tmp t=(zd base t).getD .any)→
   ∀K:St→Prop,(∀σ':St,σ'.h=zd own1→(∀t,σ'.tmp t=if o.dst=some t then ze full base t else σ.tmp t)→K σ')→zhH P N σ o K)
  (h:Q .normal ⟨full++base,own1⟩):AWp P N w0 S0 (.region id l.toArray true) Q ⟨base,own0⟩:=by
 simp only [zws,Bool.and_eq_true,decide_eq_true_eq] at hok
 obtain ⟨⟨⟨⟨k1,k2⟩,k3⟩,k4⟩,k5⟩:=hok
 have hall:∀i,i<l.toArray.size→i∈is:=fun i hi=>by simpa using List.all_eq_true.1 k4 i (List.mem_range.2 hi)
 have kk:∀i o,l.toArray[i]? =some o→o.guard=none∧Zd N o=true∧(∃d,o.dst=some d∧(zd full d).isSome=true)∧∀t∈o.looksAt l.toArray,∀(j:Nat) (oj:Oper),l.toArray[j]? =some oj→oj.dst=some t→∃e∈o.after,Region.binds .any e=true∧e.on=j:=fun i o ho=>by
  have:=List.all_eq_true.1 k1 i (List.mem_range.2 (Array.getElem?_eq_some_iff.1 ho).1)
  rw[ho] at this
  simp only [Bool.and_eq_true] at this
  obtain ⟨⟨⟨h1,h2⟩,h3⟩,h4⟩:=this
  refine ⟨Option.isNone_iff_eq_none.1 h1,h2,?_,fun t ht j oj hj hd=>?_⟩
  ·cases hd:o.dst with
   |none=>rw[hd] at h3;cases h3
   |some d=>
    rw[hd] at h3
    refine ⟨d,rfl,?_⟩
    have:d∈full.map (·.1):=by simpa using h3
    obtain ⟨p,hp,rfl⟩:=List.mem_map.1 this
    have:=zG.1 (zfI.2 ⟨p,hp,rfl⟩:zp full p.1=true)
    obtain ⟨x,hx⟩:=this;rw[hx];rfl
  ·have h5:=List.all_eq_true.1 (List.all_eq_true.1 h4 t ht) j (List.mem_range.2 (Array.getElem?_eq_some_iff.1 hj).1)
   rw[hj] at h5
   simp only [hd,beq_self_eq_true,Bool.not_true,Bool.false_or] at h5
   obtain ⟨e,he,hb⟩:=Array.any_eq_true'.1 h5
   simp only [Bool.and_eq_true,beq_iff_eq] at hb
   exact ⟨e,he,hb.1,hb.2⟩
 refine zpk hm c is full own1 ⟨fun i o ho=>(kk i o ho).1,fun i o ho _=>⟨(kk i o ho).2.1,(kk i o ho).2.2.1⟩,fun i o ho=>(kk i o ho).2.2.2,fun t ht=>?_,fun i o d ho hic hd=>?_,fun i o d ho hic hd=>?_,he⟩ k3 k4 k5 h
 ·obtain ⟨x,hx⟩:=Option.isSome_iff_exists.1 ht
  have:=List.all_eq_true.1 k2 t (List.mem_map.2 ⟨_,Zn hx,rfl⟩)
  obtain ⟨j,hj,h6⟩:=List.any_eq_true.1 this
  cases ho:l.toArray[j]? with
  |none=>rw[ho] at h6;cases h6
  |some oj=>rw[ho] at h6;exact ⟨j,oj,ho,by simpa using h6⟩
 ·cases hw:zax l.toArray 64 i c with
  |true=>exact .inl rfl
  |false=>exact .inr (zcA h0 i (hall i (Array.getElem?_eq_some_iff.1 ho).1) (by simp [hic,hw]) o d ho hd)
 ·cases hw:zax l.toArray 64 c i with
  |true=>exact .inl rfl
  |false=>exact .inr (zcA h1 i (hall i (Array.getElem?_eq_some_iff.1 ho).1) (by simp [hic,hw]) o d ho hd)
end
end Go.Smd
end
