/- Part 4. -/
import Derived.Test.YtdgnolbdcmgfoaaGreatQD03
set_option linter.unusedVariables false
set_option linter.unusedSimpArgs false
set_option maxRecDepth 100000
set_option maxHeartbeats 8000000
section
namespace Go.Smd
open Go.RowKit
def zn (P:Program){α:Type}:Sem α→Option α
 | .pure a=>some a
 | .program k=>zn P (k P)
 | .mark _ k=>zn P k
 |_=>none
theorem zdR {P:Program}{α:Type}:∀{s:Sem α} {a:α} (w:World),zn P s=some a→s.run P w= .ok a w
 | .pure a,b,w,h=>by simp [zn] at h;subst h;rfl
 | .program k,b,w,h=>zdR (s:=k P) w h
 | .mark m k,b,w,h=>zdR (s:=k) w h
 | .load ..,_,_,h| .store ..,_,_,h| .new ..,_,_,h| .shape ..,_,_,h| .freeze ..,_,_,h| .frozen ..,_,_,h| .getObj ..,_,_,h| .setObj ..,_,_,h| .choose ..,_,_,h| .sys ..,_,_,h| .halt ..,_,_,h=>by simp [zn] at h
def _root_.Go.Program.lay (P:Program)(T:TypeId):Option (Nat×Bool):=
 match P.info? T,P.underlying T with
 |some i,some d=>some (i.size,match d with| .struct _| .array _ _=>true|_=>false)
 |_,_=>none
def _root_.Go.Program.fld (P:Program)(T f:Nat):Option (Nat×Nat×Bool):=
 match P.underlying T with
 |some (.struct fs)=>(fs[f]?).bind fun fd=>(P.lay fd.type).map fun q=>(fd.offset,q.1,q.2)
 |_=>none
def _root_.Go.Program.elemT (P:Program)(T:TypeId):Option TypeId:=match P.underlying T with|some (.slice e)=>some e|_=>none
def St.ev (σ:St):Operand→Av
 | .tmp t=>σ.tmp t
 | .const v=>if z7 v then .c (.d (.v v)) else .any
 | .func f=>.c (.d (.v (.func (.func f) #[] #[])))
 | .global _=>.any
def zH (P:Program)(s:Sem Value):Option Av:=match zn P s with|some x=>if z7 x then some (.c (.d (.v x))) else none|none=>none
def zcv (off n:Nat)(g:Bool)(xs:List Cl):Option Av:=if g then some (.agg ((xs.drop off).take n)) else (xs[off]?).map .c
def zcZ:Av→Bool
 | .c (.io ..)| .c (.d (.ifc ..))| .c (.d (.ifa ..))=>true
 |_=>false
def ZO (P:Program)(T:TypeId):Option Bool:=match P.underlying T with|some (.interface _)=>some true|some _=>some false|none=>none
def _root_.Go.Program.isMap (P:Program)(T:TypeId):Bool:=match P.underlying T with|some (.map _ _)=>true|_=>false
def zbo (P:Program)(op:BinOp)(T:TypeId):Option Av:=
 match op,ZO P T with
 | .eql,some true=>some (.c (.d (.v (.bool false))))
 | .neq,some true=>some (.c (.d (.v (.bool true))))
 |_,_=>none
def Zg:Tree→Bool
 | .nil=>true
 |_=>false
def zaS:Operand→Bool
 | .const _=>true
 |_=>false
def zbZ (P:Program)(op:BinOp)(T:TypeId)(oy:Operand)(b:Bool):Option Av:=
 match op,ZO P T,zaS oy with
 | .eql,some true,true=>some (.c (.d (.v (.bool b))))
 | .neq,some true,true=>some (.c (.d (.v (.bool (!b)))))
 |_,_,_=>none
def _root_.Go.Program.isSl (P:Program)(T:TypeId):Bool:=match P.underlying T with|some (.slice _)=>true|_=>false
def zdS (op:BinOp)(ok:Bool):Option Av:=
 match op,ok with
 | .eql,true=>some (.c (.d (.v (.bool false))))
 | .neq,true=>some (.c (.d (.v (.bool true))))
 |_,_=>none
def ZH (P:Program)(op:BinOp)(T:TypeId)(ox oy:Operand)(x y:Av):Option Av:=
 match x,y with
 | .c (.d (.v .nilIface)),.c (.d (.v .nilIface))=>zbZ P op T oy true
 | .c (.d (.tr t)),.c (.d (.v .nilIface))=>zbZ P op T oy (Zg t)
 | .c (.d (.v a)),.c (.d (.v b))=>zH P (do eqGuard op T ox oy a b;binOp op T a b)
 | .c (.own _ _),.c (.d (.v (.pointer none)))| .c (.d (.pt _)),.c (.d (.v (.pointer none)))=>
  match op,P.underlying T with
  | .eql,some (.pointer _)=>some (.c (.d (.v (.bool false))))
  | .neq,some (.pointer _)=>some (.c (.d (.v (.bool true))))
  |_,_=>none
 | .c (.d (.mp _)),.c (.d (.v (.map none)))=>zdS op (P.isMap T)
 | .c (.d (.sl E (_::_))),.c (.d (.v (.slice none 0 0)))=>if 0<P.cellsOf E then zdS op (P.isSl T) else none
 |x,.c (.d (.v .nilIface))=>if zcZ x=true then zbo P op T else none
 |_,_=>none
def zbr (P:Program)(h:Nat→Option Ow)(T:TypeId)(x:Av):Option Av:=
 match P.lay T,x with
 |some (n,g),.c (.own id off)=>
  match h id with
  |some (.cells xs _)=>if off+n≤xs.length then zcv off n g xs else none
  |_=>none
 |some (n,g),.c (.ga id k sz i)=>
  match h id with
  |some (.arr ver E xs)=>if k=ver∧sz=P.cellsOf E∧n=sz∧0<sz then (xs[i]?).bind fun row=>zcv 0 n g (row.map .d) else none
  |_=>none
 |some (n,g),.c (.d (.pt xs))=>if n≤xs.length then (if g then some (.agg ((xs.take n).map .d)) else (xs[0]?).map fun d=>.c (.d d)) else none
 |_,_=>none
def Zq (P:Program)(T f:Nat)(x:Av):Option Av:=
 match P.fld T f,x with
 |some (o,n,_),.c (.own id off)=>if n=0 then none else some (.c (.own id (off+o)))
 |some (o,n,_),.c (.d (.pt xs))=>if n=0 then none else some (.c (.d (.pt (xs.drop o))))
 |_,_=>none
def _root_.Go.Program.isStr (P:Program)(T:TypeId):Bool:=match P.underlying T with|some .string=>true|_=>false
def Zi (P:Program)(h:Nat→Option Ow)(T:TypeId)(x i:Av):Option Av:=
 match x,i with
 | .c (.d (.sl E xs)),.c (.d (.v (.int _ j)))=>if P.elemT T=some E∧0<P.cellsOf E∧0≤j then (xs[j.toNat]?).map fun r=>.c (.d (.pt r)) else none
 | .c (.gs id k),.c (.d (.v (.int _ j)))=>match h id with
  |some (.arr ver E xs)=>if k=ver∧P.elemT T=some E∧0<P.cellsOf E∧0≤j∧j.toNat<xs.length then some (.c (.ga id k (P.cellsOf E) j.toNat)) else none
  |_=>none
 |_,_=>none
def zes (P:Program)(h:Nat→Option Ow)(T:TypeId)(x:Av):Option Av:=
 match x,P.underlying T with
 | .c (.d (.v (.string s))),some .string=>some (.c (.d (.v (.int .i64 s.size))))
 | .c (.d (.v (.slice none 0 0))),some (.slice _)=>some (.c (.d (.v (.int .i64 0))))
 | .c (.d (.sl _ xs)),some (.slice _)=>if xs.length≤9223372036854775807 then some (.c (.d (.v (.int .i64 xs.length)))) else none
 | .c (.gs id k),some (.slice _)=>match h id with
  |some (.arr ver _ xs)=>if k=ver∧xs.length≤9223372036854775807 then some (.c (.d (.v (.int .i64 xs.length)))) else none
  |_=>none
 |_,_=>none
def zbE (P:Program)(T:TypeId)(x:Av):Option Av:=
 match x with
 | .c (.d (.mp m))=>if P.isMap T=true then some (.c (.d (.v (.int .i64 m.length)))) else none
 |_=>none
def zcJ (P:Program)(T:TypeId)(x k:Av)(ok:Bool):Option Av:=
 match x,k with
 | .c (.d (.mp m)),.c (.d (.v (.string s)))=>if P.treeMap T=true∧(m.map (·.1)).Nodup then
   some (if ok=true then .tup [(false,[.d (.tr ((zai m s).getD .nil))]),(false,[.d (.v (.bool (zai m s).isSome))])] else .c (.d (.tr ((zai m s).getD .nil)))) else none
 |_,_=>none
def zc:List Cl→Option (List D)
 | []=>some []
 | .d x::l=>(zc l).map (x::·)
 |_::_=>none
def Z8 (P:Program)(T:TypeId)(x:Av):Option Av:=
 match P.concrete T with
 |false=>none
 |true=>match x with
  | .c (.d x)=>some (.c (.d (.ifc T x)))
  | .c (.own id off)=>some (.c (.io T id off))
  | .agg xs=>(zc xs).map fun ds=>.c (.d (.ifa T ds))
  |_=>none
def Z9 (x:Av)(i:Nat):Option Av:=
 match x with
 | .tup xs=>match xs[i]? with
  |some (true,cs)=>some (.agg cs)
  |some (false,[c])=>some (.c c)
  |_=>none
 |_=>none
def ZB (P:Program)(T:TypeId):Option (List Cl):=((P.info? T).bind (·.zero)).bind fun z=>if z.cells.all z7 then some (z.cells.toList.map fun v=>.d (.v v)) else none
def Zx (fn:Fn)(a b:Bool):Option Av:=match fn with| .func f=>if a=true∧b=true then some (.c (.d (.v (.func (.func f) #[] #[])))) else none|_=>none
def zu (P:Program)(T:TypeId):Option Av:=match (P.info? T).bind (·.zero) with
 |some (.agg cs)=>if cs.all z7=true then some (.tup [(true,cs.toList.map fun v=>.d (.v v)),(false,[.d (.v (.bool false))])]) else none
 |some v=>if z7 v=true then some (.tup [(false,[.d (.v v)]),(false,[.d (.v (.bool false))])]) else none
 |none=>none
def _root_.Go.Program.fulfils (P:Program)(U T:TypeId):Bool:=match P.underlying U,P.info? T with|some (.interface want),some i=>(Instr.missingMethod want i.methods).isNone|_,_=>false
def zb9 (ok:Bool)(g:Bool)(cs:List Cl):Option Av:=if ok=true then some (.tup [(g,cs),(false,[.d (.v (.bool true))])]) else if g=true then some (.agg cs) else (match cs with| [c]=>some (.c c)|_=>none)
def zaG (P:Program)(U:TypeId)(ok:Bool)(d:D):Option Av:=
 match ZO P U with
 |some false=>match d with
  | .ifc T x=>if T=U then zb9 ok false [.d x] else if ok=true then zu P U else none
  | .ifa T xs=>if T=U then zb9 ok true (xs.map .d) else if ok=true then zu P U else none
  | .v .nilIface=>if ok=true then zu P U else none
  |_=>none
 |some true=>match d with
  | .ifc T x=>if P.fulfils U T=true then zb9 ok false [.d (.ifc T x)] else none
  | .ifa T xs=>if P.fulfils U T=true then zb9 ok false [.d (.ifa T xs)] else none
  |_=>none
 |none=>none
def zmN (P:Program):Bool:=P.cellsOf 20==1 && P.bytesOf 20==16
def zaH (P:Program)(U:TypeId)(ok:Bool)(x:Av):Option Av:=
 match x with
 | .c (.d (.tr t))=>if zmN P=true then zaG P U ok (trD t) else none
 | .c (.d d)=>zaG P U ok d
 |_=>none
def zap:Av→Option (List Cl)
 | .c x=>some [x]
 | .agg xs=>some xs
 |_=>none
def splice {α:Type}(xs:List α)(off:Nat)(ys:List α):List α:=xs.take off++ys++xs.drop (off+ys.length)
def zb0 (place:Nat→Option (Nat×Nat)):List Cl→List (Nat×Av)→Option (List Cl)
 |cs,[]=>some cs
 |cs,(i,x)::rest=>match place i,zap x with
  |some (off,n),some ys=>if ys.length=n∧off+n≤cs.length then zb0 place (splice cs off ys) rest else none
  |_,_=>none
def zbQ (P:Program)(T:TypeId)(i:Nat):Option (Nat×Nat):=(P.fld T i).map fun q=>(q.1,q.2.1)
def _root_.Go.Program.strOk (P:Program)(T:TypeId):Bool:=match P.underlying T with|some (.struct fs)=>fs.all fun f=>(P.lay f.type).isSome|_=>false
def zaB (P:Program)(σ:St)(T:TypeId)(parts:List (Nat×Operand)):Option Av:=
 match P.strOk T,ZB P T with
 |true,some z=>(zb0 (zbQ P T) z (parts.map fun p=>(p.1,σ.ev p.2))).map .agg
 |_,_=>none
def zbF (d:Int):Option Av→Option Int
 |none=>some d
 |some (.c (.d (.v (.int _ n))))=>some n
 |_=>none
def zbG (P:Program)(T:TypeId)(x:Av)(lo hi:Option Av):Option Av:=
 match x with
 | .c (.d (.sl E xs))=>
  match zbF 0 lo,zbF xs.length hi with
  |some l,some u=>if P.elemT T=some E∧(P.info? E).isSome∧0≤l∧l≤u∧u≤xs.length then some (.c (.d (.sl E ((xs.take u.toNat).drop l.toNat)))) else none
  |_,_=>none
 |_=>none
def zcK:List Av→Option (List Int)
 | []=>some []
 | .c (.d (.v (.int .i64 a)))::l=>(zcK l).map (a::·)
 |_=>none
def ze3 (xs:List Av):Option Av:=match zcK xs with
 |some (a::l)=>some (.c (.d (.v (.int .i64 (l.foldl min a)))))
 |_=>none
def zhz (P:Program)(T:TypeId)(x i:Av):Option Av:=
 match x,i with
 | .c (.d (.v (.string s))),.c (.d (.v (.int _ j)))=>if P.isStr T=true∧0≤j∧j.toNat<s.size then some (.c (.d (.v (.int .u8 ((s[j.toNat]?).getD 0).toNat)))) else none
 |_,_=>none
def Zw (P:Program)(σ:St)(c:Call):Option Av:=
 match c.callee with
 | .builtin .min=>ze3 (c.args.toList.map σ.ev)
 | .builtin .len=>match c.args.toList,c.argTypes.toList with
  | [x],[T]=>match zbE P T (σ.ev x) with
   |some r=>some r
   |none=>zes P σ.h T (σ.ev x)
  |_,_=>none
 |_=>none
def zJ (P:Program)(σ:St)(o:Oper):Option Av:=
 match o.op with
 | .move x| .assign x=>some (σ.ev x)
 | .pick c a b=>match σ.ev c with| .c (.d (.v (.bool t)))=>some (if t then σ.ev a else σ.ev b)|_=>none
 | .unOp op _ x=>match σ.ev x with| .c (.d (.v v))=>zH P (Op.unary op v)|_=>none
 | .binOp op T x y _=>ZH P op T x y (σ.ev x) (σ.ev y)
 | .convert s d x=>match σ.ev x with| .c (.d (.v v))=>zH P (convert s d v)|_=>none
 | .field T x f=>match P.fld T f,σ.ev x with|some (off,n,g),.agg xs=>zcv off n g xs|_,_=>none
 | .fieldAddr T x f=>Zq P T f (σ.ev x)
 | .load T x=>zbr P σ.h T (σ.ev x)
 | .indexAddr T x i=>Zi P σ.h T (σ.ev x) (σ.ev i)
 | .index T x i=>zhz P T (σ.ev x) (σ.ev i)
 | .extract x i=>Z9 (σ.ev x) i
 | .nilCheck x=>match σ.ev x with| .c (.own id off)=>some (.c (.own id off))| .c (.d (.pt xs))=>some (.c (.d (.pt xs)))| .c (.io T id off)=>some (.c (.io T id off))| .c (.d (.ifc T y))=>some (.c (.d (.ifc T y)))|_=>none
 | .typeAssert x _ U ok=>zaH P U ok (σ.ev x)
 | .makeFunc fn first caps=>Zx fn first.isEmpty caps.isEmpty
 | .lookup T x k ok=>zcJ P T (σ.ev x) (σ.ev k) ok
 | .makeInterface T x=>Z8 P T (σ.ev x)
 | .build T parts=>zaB P σ T parts.toList
 | .slice T x lo hi none=>zbG P T (σ.ev x) (lo.map σ.ev) (hi.map σ.ev)
 | .call c=>Zw P σ c
 |_=>none
section
variable {P:Program} {N:Nat} {w0:World} {S0:Env} {β:Nat→Value} {σ:St} {a:Act} {w:World}
theorem Sim.ev (s:Sim P N w0 S0 β σ a w)(x:Operand):RepA P (Sd w0 S0 β σ.h w) β σ.h w (σ.ev x) (a.eval x):=by
 cases x with
 |tmp t=>exact s.tmp t
 |const v=>
  simp only [St.ev]
  split
  ·next h=>exact RepD.v h
  ·trivial
 |func f=>exact RepD.v (by simp [z7])
 |global g=>trivial
theorem zet {s:Sem Value}{r:Av}(h:zH P s=some r){S:Nat→Prop}{β:Nat→Value}{hh:Nat→Option Ow}(w:World):∃v,s.run P w= .ok v w∧RepA P S β hh w r v:=by
 unfold zH at h
 split at h
 ·next x hx=>
  split at h
  ·next hok=>cases h;exact ⟨x,zdR w hx,RepD.v hok⟩
  ·cases h
 ·cases h
theorem ZL {S:Nat→Prop}{β:Nat→Value}{hh:Nat→Option Ow}{w:World}{x v:Value}(h:RepA P S β hh w (.c (.d (.v x))) v):v=x∧z7 x=true:=by
 cases (show RepD P w S (.v x) v from h) with
 |v k=>exact ⟨rfl,k⟩
theorem ZU {S:Nat→Prop}{β:Nat→Value}{hh:Nat→Option Ow}{w:World}{x:Value}(h:z7 x=true):RepA P S β hh w (.c (.d (.v x))) x:=RepD.v h
theorem zhA {T n:Nat}{g:Bool}(h:P.lay T=some (n,g)):∃i d,P.info? T=some i∧P.underlying T=some d∧i.size=n∧(match d with| .struct _| .array _ _=>true|_=>false)=g:=by
 unfold Go.Program.lay at h
 split at h
 ·next i d hi hd=>cases h;exact ⟨i,d,hi,hd,rfl,rfl⟩
 ·cases h
theorem zcc {T n:Nat}{g:Bool}(h:P.lay T=some (n,g))(w:World):(isAgg T).run P w= .ok g w∧(sizeOf T).run P w= .ok n w:=by
 obtain ⟨i,d,hi,hd,hn,hg⟩:=zhA h
 constructor
 ·unfold isAgg
  rw[Sem.run_bind,run_underlying hd w]
  simp only [Result.andThen_ok]
  subst hg
  cases d<;>rfl
 ·simp [sizeOf,typeInfo,hi,hn]
theorem zdT {T n:Nat}{g:Bool}(hl:P.lay T=some (n,g)){ad:Addr}{us:List Value}(hn:us.length=n)(hc:∀j u,us[j]? =some u→w.cell? (ad.add j)=some u)(hg:g=true):
  (loadVar T ad).run P w= .ok (.agg us.toArray) w:=by
 obtain ⟨h1,h2⟩:=zcc hl w
 have h3:=run_loadCells_list (P:=P) w ad us hc
 subst hg;subst hn
 simp [loadVar,Sem.run_bind,h1,h2,h3]
theorem zdU {T n:Nat}(hl:P.lay T=some (n,false)){ad:Addr}{u:Value}(hc:w.cell? ad=some u):(loadVar T ad).run P w= .ok u w:=by
 obtain ⟨h1,h2⟩:=zcc hl w
 simp [loadVar,Sem.run_bind,h1,run_load,hc]
theorem zfc (b o j:Nat):(⟨b,o,none⟩:Addr).add j=⟨b,o+j,none⟩:=by unfold Addr.add;split<;>simp_all
theorem zge {S:Nat→Prop}{hh:Nat→Option Ow}{off n:Nat}{g:Bool}{xs:List Cl}{us:List Value}{r:Av}(h:zcv off n g xs=some r)(k:All2 (RepC P S β hh w) xs us):
  (g=true→RepA P S β hh w r (.agg ((us.drop off).take n).toArray))∧(g=false→∃u,us[off]? =some u∧RepA P S β hh w r u):=by
 unfold zcv at h
 split at h
 ·next hg=>cases h;subst hg;exact ⟨fun _=>⟨_,rfl,(k.drop off).take n⟩,fun h=>by cases h⟩
 ·next hg=>
  refine ⟨fun h=>absurd h hg,fun _=>?_⟩
  obtain ⟨x,hx,rfl⟩:=Option.map_eq_some_iff.1 h
  obtain ⟨u,hu,hr⟩:=k.at hx
  exact ⟨u,hu,hr⟩
theorem zuP {S:Nat→Prop}{hh:Nat→Option Ow}{row:List D}{cs:List Value}(h:All2 (RepD P w S) row cs):All2 (RepC P S β hh w) (row.map .d) cs:=by
 induction h with
 |nil=>exact .nil
 |cons h t ih=>exact .cons h ih
theorem zeS (s:Sim P N w0 S0 β σ a w){T:TypeId}{x r:Av}{v:Value}(h:zbr P σ.h T x=some r)(hx:RepA P (Sd w0 S0 β σ.h w) β σ.h w x v):
  ∃u,(Instr.loadAt T v).run P w= .ok u w∧RepA P (Sd w0 S0 β σ.h w) β σ.h w r u:=by
 unfold zbr at h
 split at h
 ·next n g id off hlay=>
  split at h
  ·next xs T' hid=>
   split at h
   ·next hle=>
    obtain ⟨ys,T'',b,h1,h2,rfl⟩:=hx
    rw[hid] at h1;cases h1
    obtain ⟨b',us,h3,h4,h5⟩:=s.own id _ hid
    rw[h2] at h3;cases h3
    obtain ⟨q1,q2⟩:=zge h h5
    have hlen:=h5.length
    have hcell:∀j u,us[j]? =some u→w.cell? ⟨b,j,none⟩=some u:=fun j u hu=>zh h4 (by simpa using hu)
    cases g with
    |true=>
     refine ⟨_,?_,q1 rfl⟩
     show (loadVar T ⟨b,off,none⟩).run P w=_
     refine zdT hlay (by rw[List.length_take,List.length_drop];omega) (fun j u hu=>?_) rfl
     rw[zfc]
     rw[List.getElem?_take] at hu
     split at hu
     ·rw[List.getElem?_drop] at hu;exact hcell _ _ hu
     ·cases hu
    |false=>
     obtain ⟨u,hu,hr⟩:=q2 rfl
     exact ⟨u,zdU hlay (hcell _ _ hu),hr⟩
   ·cases h
  ·cases h
 ·next n g id k sz i hlay=>
  split at h
  ·next ver E xs hid=>
   split at h
   ·next hc=>
    obtain ⟨rfl,rfl,rfl,hpos⟩:=hc
    obtain ⟨row,hrow,h⟩:=Option.bind_eq_some_iff.1 h
    obtain ⟨ver,E',xs',h1,_,h3,_⟩:=hx
    rw[hid] at h1;cases h1
    obtain ⟨b,n,c,hs,rfl⟩:=h3 rfl
    obtain ⟨hB,_,hl⟩:=s.own id _ hid
    obtain ⟨A,c',hs2,_,hel⟩:=hB.done (zr P) hpos
    obtain ⟨ad,cs,ha,_,hr,hcl,hcells⟩:=hel i row hrow
    have hlr:=hl row (List.mem_of_getElem? hrow)
    have hlc:=All2.length hr
    rw[hs] at hs2
    injection hs2 with e1 e2 e3
    subst e1
    cases ha
    obtain ⟨q1,q2⟩:=zge h (zuP (β:=β) (hh:=σ.h) hr)
    have hcell:∀j u,cs[j]? =some u→w.cell? ⟨b,i*P.cellsOf E+j,none⟩=some u:=fun j u hu=>by
     have:=hcells j u hu
     rwa[zfc,zfc,Nat.zero_add] at this
    cases g with
    |true=>
     refine ⟨_,?_,q1 rfl⟩
     show (loadVar T ⟨b,i*P.cellsOf E,none⟩).run P w=_
     refine zdT hlay (by rw[List.length_take,List.length_drop];omega) (fun j u hu=>?_) rfl
     rw[zfc]
     rw[List.getElem?_take] at hu
     split at hu
     ·rw[List.drop_zero] at hu;exact hcell _ _ hu
     ·cases hu
    |false=>
     obtain ⟨u,hu,hr⟩:=q2 rfl
     exact ⟨u,zdU hlay (hcell 0 u hu),hr⟩
   ·cases h
  ·cases h
 ·next n g xs hlay=>
  split at h
  ·next hle=>
   obtain ⟨ad,rfl,hrow⟩:=RepD.pt_iff.1 (show RepD P w _ (.pt xs) v from hx)
   have key:∃us:List Value,us.length=xs.length∧All2 (RepD P w (Sd w0 S0 β σ.h w)) xs us∧∀j u,us[j]? =some u→w.cell? (ad.add j)=some u:=by
    refine ⟨(List.range xs.length).map fun i=>(w.cell? (ad.add i)).getD undef,by simp,All2.of (by simp) fun i d u hi hu=>?_,fun j u hu=>?_⟩
    ·obtain ⟨u',_,hc,hr⟩:=hrow i d hi
     rw[List.getElem?_map] at hu
     obtain ⟨i',hi',rfl⟩:=Option.map_eq_some_iff.1 hu
     obtain ⟨hlt,rfl⟩:=List.getElem?_eq_some_iff.1 hi'
     simp only [List.getElem_range,hc,Option.getD_some];exact hr
    ·rw[List.getElem?_map] at hu
     obtain ⟨i',hi',rfl⟩:=Option.map_eq_some_iff.1 hu
     obtain ⟨hlt,rfl⟩:=List.getElem?_eq_some_iff.1 hi'
     simp only [List.length_range] at hlt
     obtain ⟨u',_,hc,hr⟩:=hrow j xs[j] (List.getElem?_eq_getElem hlt)
     simp only [List.getElem_range,hc,Option.getD_some]
   obtain ⟨us,hul,hall,hcs⟩:=key
   split at h
   ·next hg=>
    cases h
    refine ⟨.agg (us.take n).toArray,zdT hlay (by rw[List.length_take];omega) (fun j u hu=>?_) hg,_,rfl,?_⟩
    ·rw[List.getElem?_take] at hu
     split at hu
     ·exact hcs j u hu
     ·cases hu
    ·have:=hall.take n
     clear hcs hrow hul
     revert this
     generalize xs.take n=ys;generalize us.take n=vs
     intro this
     induction this with
     |nil=>exact .nil
     |cons h t ih=>exact .cons h ih
   ·next hg=>
    obtain ⟨d,hd,rfl⟩:=Option.map_eq_some_iff.1 h
    obtain ⟨u,hu,hr⟩:=hall.at hd
    have hg':g=false:=by cases g<;>simp_all
    subst hg'
    exact ⟨u,zdU hlay (by have:=hcs 0 u hu;simpa [Addr.add] using this),hr⟩
  ·cases h
 ·cases h
theorem zhB {S:Nat→Prop}{hh:Nat→Option Ow}{T f:Nat}{x r:Av}{v:Value}(h:Zq P T f x=some r)(hx:RepA P S β hh w x v):∃u,(Instr.fieldAt T v f).run P w= .ok u w∧RepA P S β hh w r u:=by
 have key:∀{o n g} {ad:Addr},P.fld T f=some (o,n,g)→n≠0→(Instr.fieldAt T (.pointer (some ad)) f).run P w= .ok (.pointer (some (ad.add o))) w:=by
  intro o n g ad hf hn
  unfold Go.Program.fld at hf
  split at hf
  ·next fs hu=>
   obtain ⟨fd,hfd,hm⟩:=Option.bind_eq_some_iff.1 hf
   obtain ⟨⟨n',g'⟩,hl,he⟩:=Option.map_eq_some_iff.1 hm
   cases he
   have hs:=(zcc hl w).2
   simp [Instr.fieldAt,Sem.run_bind,run_underlying hu,hfd,Instr.sureAddr,fieldPlace,hs,hn]
  ·cases hf
 unfold Zq at h
 split at h
 ·next o n g id off hf=>
  split at h
  ·cases h
  ·next hn=>
   cases h
   obtain ⟨xs,T',b,h1,h2,rfl⟩:=hx
   exact ⟨_,key hf hn,xs,T',b,h1,h2,by rw[zfc]⟩
 ·next o n g xs hf=>
  split at h
  ·cases h
  ·next hn=>
   cases h
   obtain ⟨ad,rfl,hrow⟩:=RepD.pt_iff.1 (show RepD P w S (.pt xs) v from hx)
   exact ⟨_,key hf hn,RepD.pt_iff.2 ⟨_,rfl,hrow.drop o⟩⟩
 ·cases h
theorem zbv {T E:TypeId}(h:P.elemT T=some E):P.underlying T=some (.slice E):=by
 unfold Go.Program.elemT at h
 split at h
 ·next hu=>cases h;exact hu
 ·cases h
theorem zc0 {E:TypeId}(h:0<P.cellsOf E)(w:World):(sizeOf E).run P w= .ok (P.cellsOf E) w:=by
 unfold Go.Program.cellsOf at*
 cases hi:P.info? E with
 |none=>rw[hi] at h;simp at h
 |some i=>simp [sizeOf,typeInfo,hi]
theorem zsK (s:Sim P N w0 S0 β σ a w){id ver:Nat}{E:TypeId}{xs:List (List D)}(hid:σ.h id=some (.arr ver E xs))(hn:0<xs.length):
  ∃b c,β id= .slice (some ⟨b,0,none⟩) xs.length c∧xs.length≤c:=by
 obtain ⟨⟨cs,ho,_⟩,_⟩:=s.own id _ hid
 rcases ho.2 with ⟨h5,h6⟩|⟨b,cap,cur,h5,_,_,h6,_⟩
 ·omega
 ·exact ⟨b,cap,h5,h6⟩
theorem zmO {T:TypeId}{x i r:Av}{v u:Value}{S:Nat→Prop}{hh:Nat→Option Ow}(h:zhz P T x i=some r)(hx:RepA P S β hh w x v)(hi:RepA P S β hh w i u):∃z,(Instr.index T v u).run P w= .ok z w∧RepA P S β hh w r z:=by
 unfold zhz at h
 split at h
 ·next b k j=>
  obtain ⟨rfl,_⟩:=ZL hi
  obtain ⟨rfl,_⟩:=ZL hx
  split at h
  ·next hc=>
   obtain ⟨hT,hj,hl⟩:=hc
   cases h
   have hT:P.underlying T=some .string:=by
    unfold Go.Program.isStr at hT
    split at hT
    ·assumption
    ·cases hT
   have hb:=b[j.toNat].toNat_lt
   have e:b[j.toNat]? =some b[j.toNat]:=by simp [hl]
   refine ⟨_,?_,ZU ?_⟩
   ·simp [Instr.index,Sem.run_bind,asIntOf,run_underlying hT,hj,e]
   ·simp only [e,Option.getD_some,z7,Z7,Bool.and_eq_true,decide_eq_true_eq];omega
  ·cases h
 ·cases h
theorem zhC (s:Sim P N w0 S0 β σ a w){T:TypeId}{x i r:Av}{v u:Value}(h:Zi P σ.h T x i=some r)(hx:RepA P (Sd w0 S0 β σ.h w) β σ.h w x v)(hi:RepA P (Sd w0 S0 β σ.h w) β σ.h w i u):∃z,(Instr.indexAt T v u).run P w= .ok z w∧RepA P (Sd w0 S0 β σ.h w) β σ.h w r z:=by
 unfold Zi at h
 split at h
 ·next E xs k j=>
  obtain ⟨rfl,_⟩:=ZL hi
  split at h
  ·next hc=>
   obtain ⟨hE,hpos,hj⟩:=hc
   obtain ⟨row,hr,rfl⟩:=Option.map_eq_some_iff.1 h
   obtain ⟨A,c,rfl,_,_,hrow⟩:=RepD.sl_iff.1 (show RepD P w _ (.sl E xs) v from hx)
   obtain ⟨ad,rfl,hq⟩:=(hrow _ row hr).2 hpos
   have hlt:=(List.getElem?_eq_some_iff.1 hr).1
   refine ⟨.pointer (some (ad.add (j.toNat*P.cellsOf E))),?_,RepD.pt_iff.2 ⟨_,rfl,hq⟩⟩
   have hjl:j<(xs.length:Int):=by omega
   simp [Instr.indexAt,Sem.run_bind,asIntOf,run_underlying (zbv hE),zc0 hpos,hj,hjl,Result.andThen]
  ·cases h
 ·next id kv kd j=>
  obtain ⟨rfl,_⟩:=ZL hi
  split at h
  ·next ver E xs hid=>
   split at h
   ·next hc=>
    obtain ⟨rfl,hE,hpos,hj,hjl⟩:=hc
    cases h
    obtain ⟨ver,E',xs',h1,_,h3,_⟩:=hx
    rw[hid] at h1;cases h1
    obtain ⟨b,c,hs,_⟩:=zsK s hid (by omega)
    have hv:=h3 rfl
    rw[hs] at hv;subst hv
    have hjl:j<(xs.length:Int):=by omega
    refine ⟨.pointer (some ⟨b,j.toNat*P.cellsOf E,none⟩),?_,kv,E,xs,hid,Nat.le_refl _,fun _=>⟨b,_,c,hs,rfl⟩,rfl⟩
    simp [Instr.indexAt,Sem.run_bind,asIntOf,run_underlying (zbv hE),zc0 hpos,hj,hjl,Result.andThen,zfc]
   ·cases h
  ·cases h
 ·cases h
theorem zp4 (s:Sim P N w0 S0 β σ a w){T ty:TypeId}{x r:Av}{v:Value}(h:zes P σ.h T x=some r)(hx:RepA P (Sd w0 S0 β σ.h w) β σ.h w x v):
  ∃u,(Builtin.len_ #[T] ty #[v]).run P w= .ok u w∧RepA P (Sd w0 S0 β σ.h w) β σ.h w r u:=by
 unfold zes at h
 split at h
 ·next str hu=>
  cases h
  obtain ⟨rfl,hok⟩:=ZL hx
  refine ⟨.int .i64 str.size,?_,ZU ?_⟩
  ·simp [Builtin.len_,Sem.run_bind,run_underlying hu,goInt]
  ·simp [z7,Z7] at hok ⊢;omega
 ·next e hu=>
  cases h
  obtain ⟨rfl,_⟩:=ZL hx
  refine ⟨.int .i64 0,?_,ZU (by simp [z7,Z7])⟩
  simp [Builtin.len_,Sem.run_bind,run_underlying hu,goInt]
 ·next E xs e hu=>
  split at h
  ·next hl=>
   cases h
   obtain ⟨A,c,rfl,_⟩:=RepD.sl_iff.1 (show RepD P w _ (.sl E xs) v from hx)
   refine ⟨.int .i64 xs.length,?_,ZU (by simp [z7,Z7];omega)⟩
   simp [Builtin.len_,Sem.run_bind,run_underlying hu,goInt]
  ·cases h
 ·next id k e hu=>
  split at h
  ·next ver E xs hid=>
   split at h
   ·next hl=>
    cases h
    obtain ⟨ver',E',xs',h1,_,h3,_⟩:=hx
    rw[hid] at h1;cases h1
    have hv:=h3 hl.1
    obtain ⟨A,c,hs⟩:=(s.own id _ hid).1.slice
    rw[hs] at hv;subst hv
    refine ⟨.int .i64 xs.length,?_,ZU (by simp [z7,Z7];omega)⟩
    simp [Builtin.len_,Sem.run_bind,run_underlying hu,goInt]
   ·cases h
  ·cases h
 ·cases h
theorem zeu {S:Nat→Prop}{hh:Nat→Option Ow}:∀{xs:List Cl} {ds:List D} {us:List Value},zc xs=some ds→All2 (RepC P S β hh w) xs us→All2 (RepD P w S) ds us
 | [],ds,us,h,k=>by cases h;cases k;exact .nil
 | .d x::l,ds,us,h,k=>by
  cases k with
  |cons h1 t=>
   simp only [zc] at h
   obtain ⟨ds',hd,rfl⟩:=Option.map_eq_some_iff.1 h
   exact .cons h1 (zeu hd t)
 | .own .. ::_,_,_,h,_| .gs .. ::_,_,_,h,_| .ga .. ::_,_,_,h,_| .io .. ::_,_,_,h,_| .fn .. ::_,_,_,h,_| .un::_,_,_,h,_=>by simp [zc] at h
theorem zkz {S:Nat→Prop}{hh:Nat→Option Ow}{T:TypeId}{x r:Av}{v:Value}(h:Z8 P T x=some r)(hx:RepA P S β hh w x v):∃u,(Instr.makeInterface T v).run P w= .ok u w∧RepA P S β hh w r u:=by
 unfold Z8 at h
 split at h
 ·cases h
 ·next hc=>
  have hrun:(Instr.makeInterface T v).run P w= .ok (.iface T v) w:=run_makeInterface w T v hc
  refine ⟨_,hrun,?_⟩
  split at h
  ·cases h;exact RepD.ifc hx
  ·cases h;obtain ⟨xs,T',b,h1,h2,rfl⟩:=hx;exact ⟨xs,T',b,h1,h2,rfl⟩
  ·next xs=>
   obtain ⟨ds,hd,rfl⟩:=Option.map_eq_some_iff.1 h
   obtain ⟨us,rfl,ha⟩:=hx
   have:=zeu hd ha
   exact RepD.ifa this.length.symm fun i d u hi hu=>by obtain ⟨y,hy,hr⟩:=this.at hi;rw[hu] at hy;cases hy;exact hr
  ·cases h
theorem zkA {S:Nat→Prop}{hh:Nat→Option Ow}{x r:Av}{v:Value}{i:Nat}(h:Z9 x i=some r)(hx:RepA P S β hh w x v):∃u,(Instr.extract v i).run P w= .ok u w∧RepA P S β hh w r u:=by
 unfold Z9 at h
 split at h
 ·next xs=>
  obtain ⟨us,rfl,ha⟩:=hx
  split at h
  ·next cs hi=>
   cases h
   obtain ⟨u,hu,hr⟩:=ha.at hi
   obtain ⟨us',rfl,h1⟩:=(show (∃us',u=Value.agg (List.toArray us')∧All2 (RepC P S β hh w) cs us') by simpa [RepP] using hr)
   exact ⟨_,by simp [Instr.extract,hu],_,rfl,h1⟩
  ·next c hi=>
   cases h
   obtain ⟨u,hu,hr⟩:=ha.at hi
   have hr':RepC P S β hh w c u:=by simpa [RepP] using hr
   exact ⟨u,by simp [Instr.extract,hu],hr'⟩
  ·cases h
 ·cases h
end
end Go.Smd
end
