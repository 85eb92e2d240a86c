/- Part 7. -/
import Derived.Test.YtdgnolbdcmgfoaaGreatQD06
set_option linter.unusedVariables false
set_option linter.unusedSimpArgs false
set_option maxRecDepth 100000
set_option maxHeartbeats 8000000
section
namespace Go.Smd
open Go.RowKit
def Cl.isD:Cl→Bool
 | .d _| .un=>true
 |_=>false
def Av.isD:Av→Bool
 | .c x=>x.isD
 | .agg xs=>xs.all Cl.isD
 | .tup xs=>xs.all fun p=>p.2.all Cl.isD
 | .any=>true
def noH:Nat→Option Ow:=fun _=>none
def noB:Nat→Value:=fun _=>undef
def okA (P:Program)(x:Av):Prop:=∃w S v,RepA P S noB noH w x v
def okD (P:Program)(x:D):Prop:=∃w S v,RepD P w S x v
def ACalls (P:Program)(f:FuncId)(args:List Av)(R:Av→Prop):Prop:=
 (∃fn,P.funcs[f]? =some fn∧(fn.name== "runtime.NumGoroutine")=false∧fn.body.isSome=true)∧
 ∀(w:World) (S:Nat→Prop) (vs:List Value),(∀b,S b→b<w.heap.size)→All2 (RepA P S noB noH w) args vs→
  Calls P f vs.toArray w fun e w'=>∃v r,e= .returned v∧R r∧RepA P (fun b=>S b∨w.heap.size≤b) noB noH w' r v∧Ext w w'
theorem ACalls.mono {P:Program}{f:FuncId}{args:List Av}{R R':Av→Prop}(h:ACalls P f args R)(k:∀r,R r→R' r):ACalls P f args R':=
 ⟨h.1,fun w S vs hS ha=>(h.2 w S vs hS ha).mono fun e w' ⟨v,r,h1,h2,h3,h4⟩=>⟨v,r,h1,k r h2,h3,h4⟩⟩
section
variable {P:Program} {S S':Nat→Prop} {β β':Nat→Value} {h h':Nat→Option Ow} {w:World}
theorem RepC.data {x:Cl}{v:Value}(hd:x.isD=true)(k:RepC P S β h w x v):RepC P S β' h' w x v:=by
 cases x with
 |d x=>exact k
 |un=>exact k
 |_=>simp [Cl.isD] at hd
theorem RepA.data {x:Av}{v:Value}(hd:x.isD=true)(k:RepA P S β h w x v):RepA P S β' h' w x v:=by
 cases x with
 |c x=>exact RepC.data hd k
 |agg xs=>obtain ⟨us,hu,ha⟩:=k;exact ⟨us,hu,ha.imp fun x _ hx r=>r.data (List.all_eq_true.1 hd x hx)⟩
 |tup xs=>
  obtain ⟨us,hu,ha⟩:=k
  refine ⟨us,hu,ha.imp fun p _ hp r=>?_⟩
  have hp':=List.all_eq_true.1 (List.all_eq_true.1 hd p hp)
  unfold RepP at*
  split at r
  ·next hb=>rw[if_pos hb];obtain ⟨us,hu,ha⟩:=r;exact ⟨us,hu,ha.imp fun x _ hx r=>r.data (hp' x hx)⟩
  ·next hb=>rw[if_neg hb];obtain ⟨y,hy,hr⟩:=r;exact ⟨y,hy,hr.data (hp' y (by rw[hy];simp))⟩
 |any=>trivial
theorem RepC.noH {x:Cl}{v:Value}(k:RepC P S β noH w x v):x.isD=true:=by
 cases x with
 |own id off=>obtain ⟨_,_,_,h1,_⟩:=k;cases h1
 |gs id n=>obtain ⟨_,_,_,h1,_⟩:=k;cases h1
 |ga id n sz i=>obtain ⟨_,_,_,h1,_⟩:=k;cases h1
 |io T id off=>obtain ⟨_,_,_,h1,_⟩:=k;cases h1
 |fn id=>obtain ⟨_,_,h1,_⟩:=k;cases h1
 |_=>rfl
theorem RepA.noH {x:Av}{v:Value}(k:RepA P S β noH w x v):x.isD=true:=by
 cases x with
 |c x=>exact RepC.noH k
 |agg xs=>
  obtain ⟨us,hu,ha⟩:=k
  refine List.all_eq_true.2 fun x hx=>?_
  obtain ⟨i,hi⟩:=List.getElem?_of_mem hx
  obtain ⟨u,_,hr⟩:=ha.at hi
  exact hr.noH
 |tup xs=>
  obtain ⟨us,hu,ha⟩:=k
  refine List.all_eq_true.2 fun p hp=>?_
  obtain ⟨i,hi⟩:=List.getElem?_of_mem hp
  obtain ⟨u,_,hr⟩:=ha.at hi
  unfold RepP at hr
  split at hr
  ·obtain ⟨us,hu,ha⟩:=hr
   refine List.all_eq_true.2 fun x hx=>?_
   obtain ⟨i,hi⟩:=List.getElem?_of_mem hx
   obtain ⟨u,_,hr⟩:=ha.at hi
   exact hr.noH
  ·obtain ⟨y,hy,hr⟩:=hr;rw[hy];simp [hr.noH]
 |any=>rfl
theorem RepA.imp {x:Av}{v:Value}{w':World}(hd:x.isD=true)(k:RepA P S β h w x v)(hh:∀d u,RepD P w S d u→RepD P w' S' d u):RepA P S' β' h' w' x v:=by
 have h0:RepA P S noB (Smd.noH) w x v:=k.data hd
 have hs:Steps' P S S' noB noB Smd.noH Smd.noH w w':=⟨hh,fun id xs T h=>(by cases h),fun id ver E xs h=>(by cases h),fun id f xs h=>(by cases h)⟩
 exact (h0.step hs).data hd
end
def zW (ops:Array Oper)(σ:St)(o:Oper):Option Bool:=
 match o.guard with
 |none=>some true
 |some (j,want)=>match (ops[j]?).bind (·.dst) with
  |none=>some false
  |some d=>match σ.tmp d with
   | .c (.d (.v (.bool b)))=>some (b==want)
   | .tup []=>some false
   |_=>none
def Zd (N:Nat)(o:Oper):Bool:=match o.dst with|some d=>decide (d<N)|none=>true
abbrev zcx:=Nat×Ow×Av
def Zm (h:Nat→Option Ow)(d:Tmp)(cs:List Cl)(T:TypeId):Option zcx:=if (h d).isNone∧d<zed then some (d,.cells cs T,.c (.own d 0)) else none
def zbH (h:Nat→Option Ow)(d:Tmp)(f:FuncId)(cs:List Cl):Option zcx:=if (h d).isNone∧d<zed then some (d,.clo (.fn f) cs,.c (.fn d)) else none
def zcy:List Av→Option (List Cl)
 | []=>some []
 | .c x::l=>(zcy l).map (x::·)
 |_::_=>none
def zcL (h:Nat→Option Ow)(d:Tmp)(fn:Fn)(none0:Bool)(xs:List Av):Option zcx:=
 match fn with
 | .func f=>if none0=true then (zcy xs).bind fun cs=>zbH h d f cs else none
 |_=>none
def zaT (P:Program)(h:Nat→Option Ow)(T:TypeId)(p x:Av):Option zcx:=
 match P.lay T,p,zap x with
 |some (n,_),.c (.own id off),some ys=>match h id with
  |some (.cells xs T')=>if ys.length=n∧off+n≤xs.length then some (id,.cells (splice xs off ys) T',.any) else none
  |_=>none
 |some (n,_),.c (.ga id k sz i),some ys=>match h id with
  |some (.arr ver E xs)=>if ys.length=n∧k=ver∧n=sz∧sz=P.cellsOf E∧0<sz∧i<xs.length then (zc ys).map fun ds=>(id,.arr ver E (xs.set i ds),.any) else none
  |_=>none
 |_,_,_=>none
def zaJ (h:Nat→Option Ow)(d:Tmp)(E:TypeId)(xs:List (List D)):Option zcx:=if (h d).isNone∧d<zed then some (d,.arr 0 E xs,.c (.gs d 0)) else none
def zdX (P:Program)(h:Nat→Option Ow)(d:Tmp)(T:TypeId)(n:Nat)(parts:List (Nat×Av)):Option zcx:=
 match P.elemT T with
 |none=>none
 |some E=>match ZB P E with
  |none=>none
  |some z=>if P.appOk E=true∧n*P.cellsOf E≤16777216∧n*P.bytesOf E≤140737488351232 then
    match (zb0 (fun i=>some (i*P.cellsOf E,P.cellsOf E)) (zdt n z) parts).bind zc with
    |some ds=>zaJ h d E (zaI n (P.cellsOf E) ds)
    |none=>none
   else none
def zb1 (P:Program)(h:Nat→Option Ow)(d:Tmp)(T:TypeId)(n c:Av):Option zcx:=
 match P.elemT T,n,c with
 |some E,.c (.d (.v (.int .i64 n))),.c (.d (.v (.int .i64 m)))=>if P.appOk E=true∧n=0∧0≤m∧P.bytesOf E*m.toNat≤281474976710656 then zaJ h d E [] else none
 |_,_,_=>none
def zbV (h:Nat→Option Ow)(E:TypeId):Av→Option (Option (Nat×Nat×List (List D)))
 | .c (.gs id k)=>match h id with
  |some (.arr ver E' xs)=>if k=ver∧E'=E then some (some (id,ver,xs)) else none
  |_=>none
 | .c (.d (.v (.slice none 0 0)))=>some none
 |_=>none
def zdY (h:Nat→Option Ow)(E:TypeId)(no:Nat):Av→Option (List (List D))
 | .c (.d (.sl E' ys))=>if E'=E then some ys else none
 | .c (.d (.v (.slice none 0 0)))=>some []
 | .c (.gs id k)=>match h id with
  |some (.arr ver E' ys)=>if k=ver∧E'=E∧id≠no then some ys else none
  |_=>none
 |_=>none
def zeo (P:Program)(h:Nat→Option Ow)(d:Tmp)(E:TypeId)(x y:Av):Option zcx:=
 match zbV h E x with
 |some (some (id,ver,xs))=>match zdY h E id y with
  |some ys=>if (xs.length+ys.length)*P.bytesOf E≤140737488351232 then some (id,.arr (ver+1) E (xs++ys),.c (.gs id (ver+1))) else none
  |none=>none
 |some none=>match zdY h E d y with
  |some ys=>if (h d).isNone=true∧d<zed∧ys.length*P.bytesOf E≤140737488351232 then some (d,.arr 1 E ys,.c (.gs d 1)) else none
  |none=>none
 |none=>none
def zdu (P:Program)(h:Nat→Option Ow)(d:Tmp)(T:TypeId)(x y:Av):Option zcx:=
 match P.elemT T with
 |none=>none
 |some E=>if P.appOk E=true then zeo P h d E x y else none
def zaa (P:Program)(σ:St)(d:Tmp)(c:Call):Option zcx:=
 match c.callee with
 | .builtin .append=>match c.args.toList,c.argTypes.toList with
  | [x,y],[T,T']=>if T=T' then zdu P σ.h d T (σ.ev x) (σ.ev y) else none
  |_,_=>none
 |_=>none
def Zy (P:Program)(σ:St)(o:Oper):Option zcx:=
 match o.op,o.dst with
 | .buildSlice T n parts,some d=>zdX P σ.h d T n (parts.toList.map fun p=>(p.1,σ.ev p.2))
 | .makeSlice T n c,some d=>zb1 P σ.h d T (σ.ev n) (σ.ev c)
 | .call c,some d=>zaa P σ d c
 | .alloc T,some d=>(ZB P T).bind fun cs=>Zm σ.h d cs T
 | .box T x,some d=>(zap (σ.ev x)).bind fun cs=>Zm σ.h d cs T
 | .store T p x,none=>zaT P σ.h T (σ.ev p) (σ.ev x)
 |_,_=>none
def Ze (P:Program)(σ:St)(o:Oper):Option St:=match Zy P σ o with
 |some (id,x,r)=>some ((σ.new id x).put o.dst r)
 |none=>none
def noT:TypeId:=999999999
def ZY (P:Program)(F:List Nat)(h:Nat→Option Ow):List Av→List TypeId→List Av
 |x::xs,T::Ts=>(if T=noT then zcO P F h x else zmU P T (zcO P F h x))::ZY P F h xs Ts
 |x::xs,[]=>zcO P F h x::ZY P F h xs []
 | [],_=>[]
def St.give (P:Program)(F:List Nat)(σ:St):St:=match F with| []=>σ|_=>σ.frz P F
def _root_.Go.Program.meth (P:Program)(T:TypeId)(name:String):Option (FuncId×Bool):=
 ((P.info? T).bind fun i=>i.methods.find? (·.name==name)).bind fun m=>if m.path.isEmpty=true then m.func else none
def _root_.Go.Program.ptrT (P:Program)(T:TypeId):Option (Option TypeId):=(P.underlying T).map fun d=>match d with| .pointer E=>some E|_=>none
def zab (P:Program)(h:Nat→Option Ow)(x:Av)(name:String):Option (FuncId×Av):=
 match x with
 | .c (.io T id off)=>match P.meth T name,P.ptrT T with
  |some (f,true),some (some _)=>some (f,.c (.own id off))
  |some (f,false),some (some E)=>(zbr P h E (.c (.own id off))).map fun r=>(f,r)
  |_,_=>none
 | .c (.d (.ifc T d))=>match P.meth T name,P.ptrT T with
  |some (f,true),some (some _)=>some (f,.c (.d d))
  |some (f,false),some (some E)=>(match d with| .pt xs=>(zbr P h E (.c (.d (.pt xs)))).map fun r=>(f,r)|_=>none)
  |some (f,false),some none=>some (f,.c (.d d))
  |_,_=>none
 | .c (.d (.ifa T ds))=>match P.meth T name,P.ptrT T with
  |some (f,false),some none=>some (f,.agg (ds.map .d))
  |_,_=>none
 |_=>none
def zam (h:Nat→Option Ow)(x:Av):Option (FuncId×List Av):=
 match x with
 | .c (.d (.v (.func (.func f) a b)))=>if a.isEmpty=true∧b.isEmpty=true then some (f,[]) else none
 | .c (.fn id)=>match h id with
  |some (.clo (.fn f) xs)=>some (f,xs.map .c)
  |_=>none
 |_=>none
def zy (P:Program)(σ:St)(o:Oper):Option (FuncId×List Av×List TypeId):=
 match o.op with
 | .call c=>match c.callee with
  | .value (.func f)=>some (f,c.args.toList.map σ.ev,c.argTypes.toList)
  | .value x=>(zam σ.h (σ.ev x)).map fun q=>(q.1,c.args.toList.map σ.ev++q.2,c.argTypes.toList)
  | .invoke x name=>(zab P σ.h (σ.ev x) name).map fun q=>(q.1,q.2::c.args.toList.map σ.ev,noT::c.argTypes.toList)
  | .builtin _=>none
 |_=>none
def Zh (P:Program)(σ:St)(o:Oper):Option (FuncId×List Av×List Nat):=
 (zy P σ o).map fun q=>let F:=q.2.1.flatMap (Av.deep σ.h);(q.1,ZY P F σ.h q.2.1 q.2.2,F)
def zbD (P:Program)(σ:St)(o:Oper)(K:St→Prop):Prop:=
 match Zh P σ o with
 |some (f,args,F)=>args.all Av.isD=true∧∃R,ACalls P f args R∧∀r,R r→okA P r→K ((σ.give P F).put o.dst r)
 |none=>False
def zjv (P:Program)(N:Nat)(σ:St)(o:Oper)(K:St→Prop):Prop:=
 Zd N o=true∧match zJ P σ o with
  |some r=>K (σ.put o.dst r)
  |none=>match Ze P σ o with
   |some σ'=>K σ'
   |none=>zbD P σ o K
def Cl.plain:Cl→Bool
 | .d (.v _)=>true
 |_=>false
def Av.plain:Av→Bool
 | .c x=>x.plain
 | .agg xs=>xs.all Cl.plain
 | .tup xs=>xs.all fun p=>p.2.all Cl.plain
 | .any=>false
def Cl.ren (g:Nat→Nat):Cl→Cl
 | .d x=>.d x
 | .own id off=>.own (g id) off
 | .gs id k=>.gs (g id) k
 | .ga id k sz i=>.ga (g id) k sz i
 | .io T id off=>.io T (g id) off
 | .fn id=>.fn (g id)
 | .un=>.un
def Av.ren (g:Nat→Nat):Av→Av
 | .c x=>.c (x.ren g)
 | .agg xs=>.agg (xs.map (Cl.ren g))
 | .tup xs=>.tup (xs.map fun p=>(p.1,p.2.map (Cl.ren g)))
 | .any=>.any
def Ow.ren (g:Nat→Nat):Ow→Ow
 | .cells xs T=>.cells (xs.map (Cl.ren g)) T
 | .arr k E xs=>.arr k E xs
 | .clo f xs=>.clo f (xs.map (Cl.ren g))
def Cl.fix (h:Nat→Option Ow):Cl→Cl
 | .own id off=>match h id with|some (.cells ..)=>.own id off|_=>.un
 | .io T id off=>match h id with|some (.cells ..)=>.io T id off|_=>.un
 | .gs id k=>match h id with|some (.arr ..)=>.gs id k|_=>.un
 | .ga id k sz i=>match h id with|some (.arr ..)=>.ga id k sz i|_=>.un
 | .fn id=>match h id with|some (.clo ..)=>.fn id|_=>.un
 |x=>x
def Av.fix (h:Nat→Option Ow):Av→Av
 | .c x=>.c (x.fix h)
 | .agg xs=>.agg (xs.map (Cl.fix h))
 | .tup xs=>.tup (xs.map fun p=>(p.1,p.2.map (Cl.fix h)))
 | .any=>.any
def Ow.fix (h:Nat→Option Ow):Ow→Ow
 | .cells xs T=>.cells (xs.map (Cl.fix h)) T
 | .arr k E xs=>.arr k E xs
 | .clo f xs=>.clo f (xs.map (Cl.fix h))
def ZC (ρ:List (Nat×Nat))(t:Nat)(i:Nat):Nat:=match zd ρ i with|some j=>j|none=>i+1000*(t+1)
def zp {α:Type}:List (Nat×α)→Nat→Bool
 | [],_=>false
 |(k,_)::l,i=>(k==i)||zp l i
theorem zeV {α:Type}(i:Nat):∀l:List (Nat×α),zp l i=l.any fun p=>p.1==i
 | []=>rfl
 |(k,x)::l=>by rw[zp,zeV i l];rfl
def zc2:List (Nat×Ow)→(Nat→Ow→Bool)→Bool
 | [],_=>true
 |(k,x)::l,f=>f k x && zc2 l f
theorem zev (f:Nat→Ow→Bool):∀l:List (Nat×Ow),zc2 l f=l.all fun p=>f p.1 p.2
 | []=>rfl
 |(k,x)::l=>by rw[zc2,zev f l];rfl
def zdZ:List Nat→Bool
 | []=>true
 |x::l=> !l.contains x && zdZ l
def zce (ρ:List (Nat×Nat))(args:List Av)(own0:List (Nat×Ow)):Bool:=
 zdZ (ρ.map (·.1)) && zdZ (ρ.map (·.2)) && ρ.all (fun p=>decide (zed≤p.1)) && zc2 own0 (fun k x=>zp ρ k && x.ids.all (zp own0)) && args.all (fun x=>x.ids.all (zp own0)) && ρ.all (fun p=>zp own0 p.1)
def zb2 (h:Nat→Option Ow)(g:Nat→Nat):List (Nat×Ow)→Prop
 | []=>True
 |(k,x)::l=>h (g k)=some (x.ren g)∧zb2 h g l
def zT (σ:St)(ρ:List (Nat×Nat))(t:Nat)(own':List (Nat×Ow)):List (Nat×Ow):=
 zcu (ZC ρ t) (Ow.ren (ZC ρ t)) own'++zbt (fun i=> !(ρ.map (·.2)).contains i) σ.own
def ZI (σ:St)(ρ:List (Nat×Nat))(t:Nat)(own':List (Nat×Ow)):Bool:=
 zc2 own' fun k _=>zp ρ k||(!zp σ.own (ZC ρ t k) && decide (ZC ρ t k<zed) && decide (k<zed))
def zZ {α:Type}:List (Nat×α)→List (Nat×α)
 | []=>[]
 |(k,x)::l=>(k,x)::zbt (fun j=> !(k==j)) (zZ l)
theorem zaU {α:Type}:∀(l:List (Nat×α)) (n:Nat),zd (zZ l) n=zd l n
 | [],n=>rfl
 |(k,x)::l,n=>by
  simp only [zZ,zd,zdQ]
  by_cases e:k=n
  ·rw[if_pos e,if_pos e]
  ·rw[if_neg e,if_neg e]
   have:zd ((zZ l).filter fun q=> !(k==q.1)) n=zd (zZ l) n:=by
    generalize zZ l=m
    induction m with
    |nil=>rfl
    |cons q m ih=>
     obtain ⟨j,y⟩:=q
     by_cases h:k=j
     ·subst h;simp only [List.filter_cons,beq_self_eq_true,Bool.not_true,Bool.false_eq_true,if_false,zd,if_neg e];exact ih
     ·have:(!(k==j))=true:=by simp [h]
      simp only [List.filter_cons,this,if_true,zd];rw[ih]
   rw[this,zaU l n]
def St.back (σ:St)(ρ:List (Nat×Nat))(t:Nat)(own':List (Nat×Ow)):St:=
 ⟨zcM (Av.fix (zd (zT σ ρ t own'))) (zZ σ.tmps),zcM (Ow.fix (zd (zT σ ρ t own'))) (zT σ ρ t own')⟩
def zhG:Act:={ tmps:= #[],defers:=[] }
def AProc (P:Program)(f:FuncId)(args:List Av)(own:List (Nat×Ow))(R:Av→List (Nat×Ow)→Prop):Prop:=
 (∃fn,P.funcs[f]? =some fn∧(fn.name== "runtime.NumGoroutine")=false∧fn.body.isSome=true)∧
 ∀(w:World) (E:Env) (β:Nat→Value) (vs:List Value),Sim P 0 w E β ⟨[],own⟩ zhG w→All2 (RepA P (Sd w E β (zd own) w) β (zd own) w) args vs→
  Calls P f vs.toArray w fun e w'=>∃v r β' own',e= .returned v∧R r own'∧Sim P 0 w E β' ⟨[],own'⟩ zhG w'∧RepA P (Sd w E β' (zd own') w') β' (zd own') w' r v
theorem AProc.mono {P:Program}{f:FuncId}{args:List Av}{own:List (Nat×Ow)}{R R':Av→List (Nat×Ow)→Prop}(h:AProc P f args own R)(k:∀r o,R r o→R' r o):AProc P f args own R':=
 ⟨h.1,fun w E β vs s ha=>(h.2 w E β vs s ha).mono fun e w' ⟨v,r,β',own',h1,h2,h3⟩=>⟨v,r,β',own',h1,k r own' h2,h3⟩⟩
def zmV (P:Program)(name:String)(x:Av):Prop:=∀(S:Nat→Prop) (β:Nat→Value) (h:Nat→Option Ow) (w:World) (v:Value) (us:List Value),RepA P S β h w x v→zoK P { target:=.fn (.method name) #[],args:= #[v]++us.toArray }
inductive extK (P:Program) (σ:St) (o:Oper) (K:St→Prop):Prop
 |range {T:TypeId} {x:Operand} {d:Tmp} {m:List (ByteArray×Tree)} (ho:o.op= .range T x) (hd:o.dst=some d) (hx:σ.ev x= .c (.d (.mp m))) (hT:P.treeMap T=true) (hnd:(m.map (·.1)).Nodup) (hz:(σ.h d).isNone=true∧d<zed) (h:K ((σ.new d (.clo (.it m (m.map (·.1)) none) [])).put (some d) (.c (.fn d))))
 |next {x:Operand} {id:Nat} {m:List (ByteArray×Tree)} {left:List ByteArray} {cur:Option ByteArray} (ho:o.op= .next x false) (hx:σ.ev x= .c (.fn id)) (hid:σ.h id=some (.clo (.it m left cur) []))
   (h0:left= []→K (σ.put o.dst (.tup [(false,[.d (.v (.bool false))])])))
   (h1:∀k,k∈left→k.size≤140737488351232→K ((σ.new id (.clo (.it m (left.filter fun x=>decide (x≠k)) (some k)) [])).put o.dst (.tup [(false,[.d (.v (.bool true))]),(false,[.d (.v (.string k))]),(false,[.d (.tr ((zai m k).getD .nil))])])))
 |entry {x:Operand} {id:Nat} {m:List (ByteArray×Tree)} {left:List ByteArray} {k:ByteArray} (ho:o.op= .entry x) (hx:σ.ev x= .c (.fn id)) (hid:σ.h id=some (.clo (.it m left (some k)) []))
   (h:K (σ.put o.dst (.tup [(false,[.d (.v (.string k))]),(false,[.d (.tr ((zai m k).getD .nil))])])))
 |clo {fn:Fn} {first caps:Array Operand} {d:Tmp} {q:zcx} (ho:o.op= .makeFunc fn first caps) (hd:o.dst=some d) (hq:zcL σ.h d fn first.isEmpty (caps.toList.map σ.ev)=some q) (h:K ((σ.new q.1 q.2.1).put (some d) q.2.2))
 |lend {f:FuncId} {args:List Av} {F:List Nat} {R:Av→Prop} (hc:Zh P σ o=some (f,args,F)) (ha:args.all Av.isD=true) (hR:ACalls P f args R) (hp:∀r,R r→r.plain=true) (h:∀r,R r→okA P r→K (σ.put o.dst r))
 |proc {f:FuncId} {xs args:List Av} {Ts:List TypeId} {own0:List (Nat×Ow)} {ρ:List (Nat×Nat)} {t:Nat} {R:Av→List (Nat×Ow)→Prop} (hc:zy P σ o=some (f,xs,Ts)) (hx:ZY P [] σ.h xs Ts=args.map (Av.ren (ZC ρ t))) (ho:zce ρ args own0=true) (hh:zb2 σ.h (ZC ρ t) own0) (hR:AProc P f args own0 R)
   (h:∀r own',R r own'→ZI σ ρ t own'=true∧K ((σ.back ρ t own').put o.dst ((r.ren (ZC ρ t)).fix (zd (zT σ ρ t own')))))
 |defer {x:Operand} {name:String} {args:Array Operand} {Ts:Array TypeId} {y:Av} (ho:o.op= .defer ⟨.invoke x name,args,Ts⟩) (hx:σ.ev x=y) (hd:zmV P name y) (h:K (σ.put o.dst .any))
 |sem (h:∀(N:Nat) (w0:World) (S0:Env) (β:Nat→Value) (a:Act) (w:World),Sim P N w0 S0 β σ a w→Zd N o=true→o.wp P a w (fun a' w'=>∃β' σ',K σ'∧Sim P N w0 S0 β' σ' a' w') fun _ _ _=>False)
 |frz {F:List Nat} {σ':St} (hw:Ze P (σ.give P F) o=some σ') (h:K σ')
 |frzv {F:List Nat} {r:Av} (hv:zJ P (σ.give P F) o=some r) (h:K ((σ.give P F).put o.dst r))
def zhH (P:Program)(N:Nat)(σ:St)(o:Oper)(K:St→Prop):Prop:=
 Zd N o=true∧match zJ P σ o with
  |some r=>K (σ.put o.dst r)
  |none=>match Ze P σ o with
   |some σ'=>K σ'
   |none=>zbD P σ o K∨extK P σ o K
def opX (P:Program)(N:Nat)(ops:Array Oper)(σ:St)(o:Oper)(K:St→Prop):Prop:=
 match zW ops σ o with
 |some g=>(g=true→zhH P N σ o K)∧(g=false→Zd N o=true∧K (σ.put o.dst (.tup [])))
 |none=>False
def opA (P:Program)(N:Nat)(ops:Array Oper)(σ:St)(o:Oper)(K:St→Prop):Prop:=
 match zW ops σ o with
 |some g=>(g=true→zjv P N σ o K)∧(g=false→Zd N o=true∧K (σ.put o.dst (.tup [])))
 |none=>False
def zhI (P:Program)(N:Nat)(ops:Array Oper):List Oper→St→(St→Prop)→Prop
 | [],σ,K=>K σ
 |o::os,σ,K=>opX P N ops σ o fun σ'=>zhI P N ops os σ' K
section
variable {P:Program} {N:Nat} {ops:Array Oper} {σ:St} {o:Oper} {os:List Oper} {K:St→Prop}
variable (P N ops o os σ K) in
def VK (d:Option Tmp):Option Av→Prop
 |some x=>zhI P N ops os (σ.put d x) K
 |none=>match Ze P σ o with
  |some σ'=>zhI P N ops os σ' K
  |none=>(zbD P σ o fun σ'=>zhI P N ops os σ' K)∨extK P σ o fun σ'=>zhI P N ops os σ' K
theorem zxQ {d:Option Tmp}{f:FuncId}{xs args:List Av}{Ts:List TypeId}{own0:List (Nat×Ow)}{ρ:List (Nat×Nat)}{R:Av→List (Nat×Ow)→Prop}(t:Nat)(he:o.dst=d)(hw:Ze P σ o=none)(hc:zy P σ o=some (f,xs,Ts))(hx:ZY P [] σ.h xs Ts=args.map (Av.ren (ZC ρ t)))(ho:zce ρ args own0=true)(hh:zb2 σ.h (ZC ρ t) own0)(hR:AProc P f args own0 R)
  (h:∀r own',R r own'→ZI σ ρ t own'=true∧zhI P N ops os ((σ.back ρ t own').put d ((r.ren (ZC ρ t)).fix (zd (zT σ ρ t own')))) K):VK P N ops σ o os K d none:=by
 subst he
 unfold VK
 rw[hw]
 exact .inr (.proc hc hx ho hh hR h)
end
section
variable {P:Program} {N:Nat} {w0:World} {S0:Env} {β:Nat→Value} {σ:St} {a:Act} {w:World}
theorem zhJ (s:Sim P N w0 S0 β σ a w){ops:Array Oper}{o:Oper}{g:Bool}(h:zW ops σ o=some g):Region.wanted o (yielded ops a.tmps)=g:=by
 unfold zW at h
 split at h
 ·next hg=>cases h;simp [Region.wanted,hg]
 ·next j want hg=>
  simp only [Region.wanted,hg,yielded]
  split at h
  ·next hd=>cases h;simp [hd]
  ·next d hd=>
   rw[hd]
   have hr:=s.tmp d
   split at h
   ·next b hb=>
    cases h
    rw[hb] at hr
    obtain ⟨hv,_⟩:=ZL hr
    have:a.tmps[d]? =some (.bool b):=by
     by_cases hlt:d<a.tmps.size
     ·simpa [hlt] using hv
     ·simp [hlt,undef] at hv
    simp only [Option.bind_some,this]
    cases b<;>cases want<;>rfl
   ·next hb=>
    cases h
    rw[hb] at hr
    obtain ⟨us,hv,ha⟩:=hr
    cases ha
    by_cases hlt:d<a.tmps.size
    ·have:a.tmps[d]? =some (.tuple #[]):=by simpa [hlt] using hv
     simp [this]
    ·simp [hlt]
   ·cases h
theorem Zc {o:Oper}(h:Zd N o=true):∀d,o.dst=some d→d<N:=fun d hd=>by
 unfold Zd at h;rw[hd] at h;simpa using h
theorem zff {d:Tmp}{E:TypeId}{xs:List (List D)}{q:zcx}(h:zaJ σ.h d E xs=some q):σ.h d=none∧d<zed∧q=(d,.arr 0 E xs,.c (.gs d 0)):=by
 unfold zaJ at h
 split at h
 ·next hn=>cases h;exact ⟨Option.isNone_iff_eq_none.1 hn.1,hn.2,rfl⟩
 ·cases h
theorem zd0 {d:Tmp}{cs:List Cl}{T:TypeId}{q:zcx}(h:Zm σ.h d cs T=some q):σ.h d=none∧d<zed∧q=(d,.cells cs T,.c (.own d 0)):=by
 unfold Zm at h
 split at h
 ·next hn=>cases h;exact ⟨Option.isNone_iff_eq_none.1 hn.1,hn.2,rfl⟩
 ·cases h
theorem zhK {d:Tmp}{f:FuncId}{cs:List Cl}{q:zcx}(h:zbH σ.h d f cs=some q):σ.h d=none∧d<zed∧q=(d,.clo (.fn f) cs,.c (.fn d)):=by
 unfold zbH at h
 split at h
 ·next hn=>cases h;exact ⟨Option.isNone_iff_eq_none.1 hn.1,hn.2,rfl⟩
 ·cases h
theorem zlH (s:Sim P N w0 S0 β σ a w){E:TypeId}{y:Av}{ys:List (List D)}{no:Nat}{u:Value}(hp:0<P.cellsOf E)(h:zdY σ.h E no y=some ys)(r:RepA P (Sd w0 S0 β σ.h w) β σ.h w y u):
  ∃A c,u= .slice A ys.length c∧RowOf (RDs P w (Sd w0 S0 β σ.h w)) (P.cellsOf E) (fun _=>True) w A ys:=by
 unfold zdY at h
 split at h
 ·next E' ys'=>
  split at h
  ·next e=>
   cases h;subst e
   obtain ⟨A,c,h1,h2⟩:=RepD.rowOf (S:=Sd w0 S0 β σ.h w) (T:=Sd w0 S0 β σ.h w) r hp fun _ h=>h
   exact ⟨A,c,h1,h2.any⟩
  ·cases h
 ·cases h
  obtain ⟨rfl,_⟩:=ZL r
  exact ⟨none,0,rfl,fun j x hj=>by simp at hj⟩
 ·next id k=>
  split at h
  ·next ver E' ys' hid=>
   split at h
   ·next hc=>
    cases h
    obtain ⟨rfl,rfl,_⟩:=hc
    obtain ⟨ver',E'',ys'',h1,_,h3,_⟩:=r
    rw[hid] at h1;cases h1
    obtain ⟨A,c,h4,_,h5⟩:=Build.done (zr P) hp (s.own id _ hid).1
    exact ⟨A,c,(h3 rfl).trans h4,h5.any⟩
   ·cases h
  ·cases h
 ·cases h
theorem zp8 (s:Sim P N w0 S0 β σ a w){d:Tmp}{T ty E:TypeId}{x y:Av}{q:zcx}{v u:Value}(hT:P.elemT T=some E)(hE:P.appOk E=true)(h:zeo P σ.h d E x y=some q)(hd:d<N)
  (hv:RepA P (Sd w0 S0 β σ.h w) β σ.h w x v) (hu:RepA P (Sd w0 S0 β σ.h w) β σ.h w y u):∃v' w' β',(Builtin.append_ #[T,T] ty #[v,u]).run P w= .ok v' w'∧Sim P N w0 S0 β' ((σ.new q.1 q.2.1).put (some d) q.2.2) (a.put (some d) v') w':=by
 obtain ⟨_,_,_,hp,_⟩:=zcd hE
 unfold zeo at h
 split at h
 ·next id ver xs hb=>
  split at h
  ·next ys hr=>
   split at h
   ·next hle=>
    cases h
    unfold zbV at hb
    split at hb
    ·next id' k=>
     split at hb
     ·next ver' E' xs' hid=>
      split at hb
      ·next hc=>
       obtain ⟨rfl,rfl⟩:=hc
       cases hb
       obtain ⟨v',w',β',h1,h2,h3⟩:=s.append (ty:=ty) hT hE hid hle hv (zlH s hp hr hu)
       exact ⟨v',w',β',h1,h2.put (fun d' e=>by cases e;exact hd) h3⟩
      ·cases hb
     ·cases hb
    ·cases hb
    ·cases hb
   ·cases h
  ·cases h
 ·next hb=>
  split at h
  ·next ys hr=>
   split at h
   ·next hc=>
    cases h
    have hn:x= .c (.d (.v (.slice none 0 0))):=by
     unfold zbV at hb
     split at hb
     ·split at hb
      ·split at hb<;>cases hb
      ·cases hb
     ·rfl
     ·cases hb
    subst hn
    have hid:=Option.isNone_iff_eq_none.1 hc.1
    obtain ⟨β1,s1,h1,k1⟩:=s.nilArr E hc.2.1 hid
    have hrow:∃A c,u= .slice A ys.length c∧RowOf (RDs P w (Sd w0 S0 β1 (σ.new d (.arr 0 E [])).h w)) (P.cellsOf E) (fun _=>True) w A ys:=by
     obtain ⟨A,c,q1,q2⟩:=zlH s hp hr hu
     refine ⟨A,c,q1,fun j x hj=>?_⟩
     obtain ⟨ad,cs,r1,r2,r3,r4⟩:=q2 j x hj
     exact ⟨ad,cs,r1,r2,All2.imp r3 fun x u _ k=>k1.d x u k,r4⟩
    obtain ⟨v',w',β',h2,h3,h4⟩:=s1.append (id:=d) (ver:=0) (xs:=[]) (ys:=ys) (ty:=ty) (v:=v) (u:=u) hT hE (by rw[zt];simp) (by simpa using hc.2.2) (h1 v (RepD.mono hv fun _ _=>trivial)) hrow
    refine ⟨v',w',β',h2,?_⟩
    have e:((σ.new d (.arr 0 E [])).new d (.arr (0+1) E ([]++ys))).h=(σ.new d (.arr 1 E ys)).h:=by
     rw[zt,zt,zt]
     funext i
     by_cases e:i=d<;>simp [e]
    have h5:=h3.put (dst:=some d) (x:=.c (.gs d (0+1))) (v:=v') (fun d' e=>by cases e;exact hd) h4
    obtain ⟨q1,q1',q1'',q2,q3,q4,q5,q6,q7⟩:=h5
    have e2:(((σ.new d (.arr 0 E [])).new d (.arr (0+1) E ([]++ys))).put (some d) (.c (.gs d (0+1)))).h=((σ.new d (.arr 1 E ys)).put (some d) (.c (.gs d 1))).h:=e
    rw[e2] at q1'' q2 q3 q4 q5
    exact ⟨q1,q1',q1'',q2,q3,q4,q5,q6,q7⟩
   ·cases h
  ·cases h
 ·cases h
theorem zjw {S:Nat→Prop}{hh:Nat→Option Ow}:∀{xs:List Av} {cs:List Cl} {us:List Value},zcy xs=some cs→All2 (fun x v=>RepA P S β hh w x v) xs us→All2 (RepC P S β hh w) cs us
 | [],cs,us,h,k=>by cases h;cases k;exact .nil
 | .c x::l,cs,us,h,k=>by
  cases k with
  |cons h1 t=>
   simp only [zcy] at h
   obtain ⟨ds',hd,rfl⟩:=Option.map_eq_some_iff.1 h
   exact .cons h1 (zjw hd t)
 | .agg _::_,_,_,h,_| .tup _::_,_,_,h,_| .any::_,_,_,h,_=>by simp [zcy] at h
theorem zgh (s:Sim P N w0 S0 β σ a w){o:Oper}{σ':St}(hd:Zd N o=true)(h:Ze P σ o=some σ'):o.wp P a w (fun a' w'=>∃β',Sim P N w0 S0 β' σ' a' w') fun _ _ _=>False:=by
 have hq:∃id x r,Zy P σ o=some (id,x,r)∧(σ.new id x).put o.dst r=σ':=by
  unfold Ze at h
  split at h
  ·next id x r hw=>exact ⟨id,x,r,hw,Option.some.inj h⟩
  ·cases h
 clear h
 obtain ⟨id,x,r,h,rfl⟩:=hq
 have hd2:∀d,o.dst=some d→∀d',some d=some d'→d'<N:=fun d hd1 d' e=>Zc hd d' (by rw[hd1];exact e)
 unfold Zy at h
 unfold Oper.wp execOp
 split at h
 ·next T n parts d ho hdst=>
  unfold zdX at h
  split at h
  ·cases h
  ·next E hT=>
   split at h
   ·cases h
   ·next z hz=>
    split at h
    ·next hc=>
     split at h
     ·next ds hf=>
      obtain ⟨r',hf,hds⟩:=Option.bind_eq_some_iff.1 hf
      obtain ⟨hid,hzd,he⟩:=zff h
      cases he
      obtain ⟨v',w',β',hrun,s1,s2⟩:=s.literal hzd hT hc.1 hz hid hc.2.1 hc.2.2 hf hds
      rw[ho]
      have hrun':(Instr.buildSlice T n (parts.map fun (i,x)=>(i,a.eval x))).run P w= .ok v' w':=by simpa using hrun
      simp only [Sem.run_bind,hrun',Result.andThen_ok,Sem.run_pure]
      show ∃β',Sim P N w0 S0 β' _ (a.put o.dst _) _
      rw[hdst]
      exact ⟨_,s1.put (hd2 _ hdst) s2⟩
     ·cases h
    ·cases h
 ·next T n c d ho hdst=>
  unfold zb1 at h
  split at h
  ·next E n' m' hT hn hm=>
   split at h
   ·next hc=>
    obtain ⟨hid,hzd,he⟩:=zff h
    cases he
    obtain ⟨h1,rfl,h2,h3⟩:=hc
    obtain ⟨v',w',β',hrun,s1,s2⟩:=s.make hzd hT h1 hid h3
    have e1:=s.ev n;have e2:=s.ev c
    rw[hn] at e1;rw[hm] at e2
    rw[ho]
    simp only [(ZL e1).1,(ZL e2).1]
    rw[Int.toNat_of_nonneg h2] at hrun
    simp only [Sem.run_bind,hrun,Result.andThen_ok,Sem.run_pure]
    show ∃β',Sim P N w0 S0 β' _ (a.put o.dst _) _
    rw[hdst]
    exact ⟨_,s1.put (hd2 _ hdst) s2⟩
   ·cases h
  ·cases h
 ·next c d ho hdst=>
  obtain ⟨callee,args,tys⟩:=c
  unfold zaa at h
  split at h
  ·next hcal=>
   split at h
   ·next x y T T' hargs htys=>
    simp only at hcal hargs htys
    subst hcal
    split at h
    ·next hTT=>
     subst hTT
     unfold zdu at h
     split at h
     ·cases h
     ·next E hT=>
      split at h
      ·next hE=>
       obtain ⟨v',w',β',hrun,s1⟩:=zp8 s (ty:=o.type) hT hE h (Zc hd d hdst) (s.ev x) (s.ev y)
       rw[ho]
       have ea:args= #[x,y]:=by rw[←Array.toArray_toList (xs:=args),hargs]
       have et:tys= #[T,T]:=by rw[←Array.toArray_toList (xs:=tys),htys]
       subst ea;subst et
       simp only [resolve,invoke,builtin,Sem.run_bind,Sem.run_pure,Result.andThen_ok,List.map_toArray,List.map_cons,List.map_nil,hrun]
       show ∃β',Sim P N w0 S0 β' _ (a.put o.dst _) _
       rw[hdst]
       exact ⟨_,s1⟩
      ·cases h
    ·cases h
   ·cases h
  ·cases h
 ·next T d ho hdst=>
  obtain ⟨cs,hz,hn⟩:=Option.bind_eq_some_iff.1 h
  obtain ⟨hid,hzd,he⟩:=zd0 hn
  cases he
  obtain ⟨i,z,hi,hzv,hr⟩:=zfd (S:=Sd w0 S0 β σ.h w) (β:=β) (hh:=σ.h) (w:=w) hz
  obtain ⟨s1,s2⟩:=s.alloc (id:=id) T hzd hid hr
  rw[ho]
  have hrun:(Instr.alloc T true (.tuple #[])).run P w= .ok (.pointer (some ⟨w.heap.size,0,none⟩)) (w.alloc (.cells z.cells.toList.toArray T)):=by
   have hzr:(zeroValue T).run P w= .ok z w:=by simp [zeroValue,typeInfo,hi,hzv]
   unfold Instr.alloc
   rw[Sem.run_bind,hzr]
   simp only [Result.andThen_ok,Array.toArray_toList]
   rfl
  have hrun2:=hrun
  generalize (w.alloc _)=w2 at hrun2 s1 s2
  simp only [Sem.run_bind,hrun2,Result.andThen_ok,Sem.run_pure]
  show ∃β',Sim P N w0 S0 β' _ (a.put o.dst _) _
  rw[hdst]
  exact ⟨_,s1.put (hd2 _ hdst) s2⟩
 ·next T x d ho hdst=>
  obtain ⟨cs,hz,hn⟩:=Option.bind_eq_some_iff.1 h
  obtain ⟨hid,hzd,he⟩:=zd0 hn
  cases he
  have hr:=zdV hz (s.ev x)
  obtain ⟨s1,s2⟩:=s.alloc (id:=id) T hzd hid hr
  rw[ho]
  have hrun:(Instr.box T (a.eval x)).run P w= .ok (.pointer (some ⟨w.heap.size,0,none⟩)) (w.alloc (.cells (a.eval x).cells.toList.toArray T)):=by
   simp only [Array.toArray_toList]
   rfl
  have hrun2:=hrun
  generalize (w.alloc _)=w2 at hrun2 s1 s2
  simp only [Sem.run_bind,hrun2,Result.andThen_ok,Sem.run_pure]
  show ∃β',Sim P N w0 S0 β' _ (a.put o.dst _) _
  rw[hdst]
  exact ⟨_,s1.put (hd2 _ hdst) s2⟩
 ·next T p x ho hdst=>
  unfold zaT at h
  split at h
  ·next n g id' off ys hlay hp hys=>
   split at h
   ·next xs T' hid=>
    split at h
    ·next hc=>
     cases h
     have hpr:=s.ev p
     rw[hp] at hpr
     obtain ⟨w',hrun,β',hs⟩:=s.store hlay hid hys hc.1 hc.2 (s.ev x) hpr
     rw[ho]
     simp only [Sem.run_bind,hrun,Result.andThen_ok,Sem.run_pure,Oper.upon]
     rw[hdst]
     exact ⟨β',hs⟩
    ·cases h
   ·cases h
  ·next n g id' k sz i ys hlay hp hys=>
   split at h
   ·next ver E xs hid=>
    split at h
    ·next hc=>
     obtain ⟨ds,hds,he⟩:=Option.map_eq_some_iff.1 h
     cases he
     have hpr:=s.ev p
     rw[hp] at hpr
     obtain ⟨w',hrun,β',hs⟩:=s.storeRow hlay hid hys hc.1 hds hc.2.1 hc.2.2.1 hc.2.2.2.1 hc.2.2.2.2.1 hc.2.2.2.2.2 (s.ev x) hpr
     rw[ho]
     simp only [Sem.run_bind,hrun,Result.andThen_ok,Sem.run_pure,Oper.upon]
     rw[hdst]
     exact ⟨β',hs⟩
    ·cases h
   ·cases h
  ·cases h
 ·cases h
theorem zdv {F:List Nat}{S:Nat→Prop}{hh h0:Nat→Option Ow}:∀{xs:List Av} {Ts:List TypeId} {us:List Value},All2 (fun x v=>RepA P S β hh w (zcO P F h0 x) v) xs us→All2 (RepA P S β hh w) (ZY P F h0 xs Ts) us
 | [],Ts,us,h=>by cases h;cases Ts<;>exact .nil
 |x::xs,[],us,h=>by
  obtain ⟨u,us',rfl,h1,h2⟩:=h.inv
  exact .cons h1 (zdv h2)
 |x::xs,T::Ts,us,h=>by
  obtain ⟨u,us',rfl,h1,h2⟩:=h.inv
  refine .cons ?_ (zdv h2)
  split
  ·exact h1
  ·exact zlF h1
theorem zgi {T:TypeId}{q:Option TypeId}(h:P.ptrT T=some q):∃d,P.underlying T=some d∧(match d with| .pointer E=>some E|_=>none)=q:=Option.map_eq_some_iff.1 h
theorem zgj {T:TypeId}{name:String}{q:FuncId×Bool}(h:P.meth T name=some q):∃i m,P.info? T=some i∧i.methods.find? (·.name==name)=some m∧m.path= #[]∧m.func=some q:=by
 unfold Go.Program.meth at h
 obtain ⟨m,h1,h2⟩:=Option.bind_eq_some_iff.1 h
 obtain ⟨i,h3,h4⟩:=Option.bind_eq_some_iff.1 h1
 split at h2
 ·next hp=>exact ⟨i,m,h3,h4,by simpa using hp,h2⟩
 ·cases h2
theorem ziX (ts:Array TypeId)(t:TypeId)(a:Addr)(s n:String):Builtin.ssaWrapNilChk_ ts t #[.pointer (some a),strVal s,strVal n]=(pure (.pointer (some a)):Sem Value):=rfl
theorem zfg {T E:TypeId}{name:String}{f:FuncId}(hm:P.meth T name=some (f,true))(hp:P.ptrT T=some (some E))(n:Nat)(v:Value)(w:World):(method (n+1) T v name).run P w= .ok (f,v) w:=by
 obtain ⟨i,m,h1,h2,h3,h4⟩:=zgj hm
 obtain ⟨d,h5,h6⟩:=zgi hp
 cases d<;>simp at h6
 unfold method
 simp [typeInfo,h1,h2,h3,h4,follow,receiverAt,run_underlying h5,Place.get]
theorem zgO {T E:TypeId}{name:String}{f:FuncId}(hm:P.meth T name=some (f,false))(hp:P.ptrT T=some (some E))(n:Nat){ad:Addr}{u:Value}{w:World}(hl:(loadVar E ad).run P w= .ok u w):(method (n+1) T (.pointer (some ad)) name).run P w= .ok (f,u) w:=by
 obtain ⟨i,m,h1,h2,h3,h4⟩:=zgj hm
 obtain ⟨d,h5,h6⟩:=zgi hp
 cases d<;>simp at h6
 subst h6
 unfold method
 simp [typeInfo,h1,h2,h3,h4,follow,receiverAt,run_underlying h5,Place.get,hl,ziX,asAddr]
theorem zhL {T:TypeId}{name:String}{f:FuncId}(hm:P.meth T name=some (f,false))(hp:P.ptrT T=some none)(n:Nat)(v:Value)(w:World):(method (n+1) T v name).run P w= .ok (f,v) w:=by
 obtain ⟨i,m,h1,h2,h3,h4⟩:=zgj hm
 obtain ⟨d,h5,h6⟩:=zgi hp
 unfold method
 cases d<;>simp at h6<;>simp [typeInfo,h1,h2,h3,h4,follow,receiverAt,run_underlying h5,Place.get]
theorem zhM {T:TypeId}{v u:Value}{w':World}(h:(Instr.loadAt T v).run P w= .ok u w'):∃ad,v= .pointer (some ad)∧(loadVar T ad).run P w= .ok u w':=by
 cases v with
 |pointer q=>cases q with
  |none=>simp [Instr.loadAt,Instr.sureAddr,stuck,Sem.run_bind,Sem.run,Result.andThen] at h
  |some ad=>exact ⟨ad,rfl,h⟩
 |_=>simp [Instr.loadAt,Instr.sureAddr,stuck,Sem.run_bind,Sem.run,Result.andThen] at h
theorem zlI (s:Sim P N w0 S0 β σ a w){x r:Av}{name:String}{f:FuncId}{v:Value}(h:zab P σ.h x name=some (f,r))(hx:RepA P (Sd w0 S0 β σ.h w) β σ.h w x v):
  ∃T y u,v= .iface T y∧(∀n,(method (n+1) T y name).run P w= .ok (f,u) w)∧RepA P (Sd w0 S0 β σ.h w) β σ.h w r u:=by
 unfold zab at h
 split at h
 ·next T id off=>
  obtain ⟨xs,T',b,h1,h2,rfl⟩:=hx
  split at h
  ·next f' e hm hp=>cases h;exact ⟨_,_,_,rfl,fun n=>zfg hm hp n _ w,xs,T',b,h1,h2,rfl⟩
  ·next f' E hm hp=>
   obtain ⟨r',hl,he⟩:=Option.map_eq_some_iff.1 h
   cases he
   obtain ⟨u,hrun,hr⟩:=zeS s hl (show RepA P (Sd w0 S0 β σ.h w) β σ.h w (.c (.own id off)) (.pointer (some ⟨b,off,none⟩)) from ⟨xs,T',b,h1,h2,rfl⟩)
   obtain ⟨ad,he,hl2⟩:=zhM hrun
   cases he
   exact ⟨_,_,u,rfl,fun n=>zgO hm hp n hl2,hr⟩
  ·cases h
 ·next T d=>
  obtain ⟨y,rfl,hy⟩:∃y,v= .iface T y∧RepD P w (Sd w0 S0 β σ.h w) d y:=by cases (show RepD P w (Sd w0 S0 β σ.h w) (.ifc T d) v from hx) with|ifc h=>exact ⟨_,rfl,h⟩
  split at h
  ·next f' e hm hp=>cases h;exact ⟨_,_,_,rfl,fun n=>zfg hm hp n _ w,hy⟩
  ·next f' E hm hp=>
   split at h
   ·next xs=>
    obtain ⟨r',hl,he⟩:=Option.map_eq_some_iff.1 h
    cases he
    obtain ⟨u,hrun,hr⟩:=zeS s hl (show RepA P (Sd w0 S0 β σ.h w) β σ.h w (.c (.d (.pt xs))) y from hy)
    obtain ⟨ad,rfl,hl2⟩:=zhM hrun
    exact ⟨_,_,u,rfl,fun n=>zgO hm hp n hl2,hr⟩
   ·cases h
  ·next f' hm hp=>cases h;exact ⟨_,_,_,rfl,fun n=>zhL hm hp n _ w,hy⟩
  ·cases h
 ·next T ds=>
  obtain ⟨us,hl,rfl,hy⟩:∃us:List Value,us.length=ds.length∧v= .iface T (.agg us.toArray)∧∀(i:Nat) (d:D) (u:Value),ds[i]? =some d→us[i]? =some u→RepD P w (Sd w0 S0 β σ.h w) d u:=by
   cases (show RepD P w (Sd w0 S0 β σ.h w) (.ifa T ds) v from hx) with|ifa hl h=>exact ⟨_,hl,rfl,h⟩
  split at h
  ·next f' hm hp=>
   cases h
   exact ⟨_,_,_,rfl,fun n=>zhL hm hp n _ w,us,rfl,All2.of (by simp [hl]) fun i c u hc hu=>by
    rw[List.getElem?_map] at hc
    obtain ⟨y,hy',rfl⟩:=Option.map_eq_some_iff.1 hc
    exact hy i y u hy' hu⟩
  ·cases h
 ·cases h
theorem zlJ:∃n,Made.depth=n+1:=⟨Made.depth - 1,by decide⟩
theorem zcP {f:FuncId}{fn:Func}(hf:P.funcs[f]? =some fn)(hn:(fn.name== "runtime.NumGoroutine")=false)(hb:fn.body.isSome=true)(us:Array Value)(w:World):(callFunc f us).run P w= .ok (.enter f us) w:=by
 have hn':¬fn.name= "runtime.NumGoroutine" :=by simpa using hn
 have hbn':¬fn.body=none:=by cases hbb:fn.body<;>simp_all
 simp [callFunc,program,Sem.run_bind,Sem.run,hf,hn',hbn']
theorem zfG (s:Sim P N w0 S0 β σ a w)(args:Array Operand):All2 (RepA P (Sd w0 S0 β σ.h w) β σ.h w) (args.toList.map σ.ev) (args.toList.map a.eval):=All2.of (by simp) fun i x v hx hv=>by
 rw[List.getElem?_map] at hx hv
 obtain ⟨p,hp,rfl⟩:=Option.map_eq_some_iff.1 hx
 rw[hp] at hv;cases hv
 exact s.ev p
theorem zfh (s:Sim P N w0 S0 β σ a w){o:Oper}{f:FuncId}{xs:List Av}{Ts:List TypeId}(h:zy P σ o=some (f,xs,Ts)){fn:Func}(hf:P.funcs[f]? =some fn)(hn:(fn.name== "runtime.NumGoroutine")=false)(hb:fn.body.isSome=true):
  ∃us,(execOp a.eval o).run P w= .ok (.enter f (List.toArray us)) w∧All2 (RepA P (Sd w0 S0 β σ.h w) β σ.h w) xs us:=by
 unfold zy at h
 split at h
 case h_2=>cases h
 next c ho=>
 have hmap:∀l:Array Operand,l.map a.eval=(l.toList.map a.eval).toArray:=fun l=>by rw[←Array.toList_inj];simp
 unfold execOp
 rw[ho]
 split at h
 ·next f' hcal=>
  cases h
  refine ⟨c.args.toList.map a.eval,?_,zfG s c.args⟩
  simp only [resolve,hcal,Act.eval,Deferred.ofValue,invoke,Sem.run_bind,Sem.run_pure,Result.andThen_ok,Array.append_empty,Array.empty_append]
  rw[zcP hf hn hb,←hmap]
 ·next x hne hcal=>
  obtain ⟨⟨f',ys⟩,h1,h2⟩:=Option.map_eq_some_iff.1 h
  simp only [Prod.mk.injEq] at h2
  obtain ⟨rfl,rfl,rfl⟩:=h2
  have hx:=s.ev x
  obtain ⟨cs,hv,hcs⟩:∃cs:List Value,a.eval x= .func (.func f') #[] cs.toArray∧All2 (RepA P (Sd w0 S0 β σ.h w) β σ.h w) ys cs:=by
   unfold zam at h1
   split at h1
   ·next f2 aa bb he=>
    split at h1
    ·next hc=>
     cases h1
     rw[he] at hx
     obtain ⟨hv,_⟩:=ZL hx
     obtain ⟨ha,hbb⟩:=hc
     have ea:aa= #[]:=by simpa using ha
     have eb:bb= #[]:=by simpa using hbb
     subst ea;subst eb
     exact ⟨[],hv,.nil⟩
    ·cases h1
   ·next id he=>
    split at h1
    ·next f2 zs hid=>
     cases h1
     rw[he] at hx
     obtain ⟨_,_,_,h3,_⟩:=hx
     obtain ⟨us,h4,h5⟩:=s.own id _ hid
     refine ⟨us,by rw[h3,h4],?_⟩
     exact ZX h5 fun x u _ r=>r
    ·cases h1
   ·cases h1
  refine ⟨c.args.toList.map a.eval++cs,?_,(zfG s c.args).append hcs⟩
  simp only [resolve,hcal,hv,Deferred.ofValue,invoke,Sem.run_bind,Sem.run_pure,Result.andThen_ok,Array.empty_append]
  rw[zcP hf hn hb,hmap]
  simp
 ·next x name hcal=>
  obtain ⟨⟨f',r⟩,h1,h2⟩:=Option.map_eq_some_iff.1 h
  simp only [Prod.mk.injEq] at h2
  obtain ⟨rfl,rfl,rfl⟩:=h2
  obtain ⟨T,y,u,hv,hm,hr⟩:=zlI s h1 (s.ev x)
  refine ⟨u::c.args.toList.map a.eval,?_,.cons hr (zfG s c.args)⟩
  obtain ⟨n,hn1⟩:=zlJ
  have hm':=hm (P.types.size+n)
  have hdep:P.types.size+Made.depth=P.types.size+n+1:=by omega
  have hext:(#[a.eval x]++c.args.map a.eval).extract 1 (#[a.eval x]++c.args.map a.eval).size=c.args.map a.eval:=by
   rw[←Array.toList_inj];simp [List.take_of_length_le]
  have hget:(#[a.eval x]++c.args.map a.eval)[0]? =some (a.eval x):=by simp [Array.getElem?_append]
  rw[hv] at hget hext
  simp only [resolve,hcal,invoke,Sem.run_bind,Sem.run_pure,Result.andThen_ok,hv,hget,hext,callMethod]
  simp only [program,Sem.run_bind,Sem.run,Result.andThen_ok,hdep,hm']
  rw[zcP hf hn hb,hmap]
  simp
 ·cases h
theorem zjx (s:Sim P N w0 S0 β σ a w){o:Oper}{K:St→Prop}(hd:Zd N o=true)(h:zbD P σ o K):o.wp P a w (fun a' w'=>∃β' σ',K σ'∧Sim P N w0 S0 β' σ' a' w') fun _ _ _=>False:=by
 unfold zbD at h
 split at h
 ·next f args F hc=>
  obtain ⟨hall,R,hR,hK⟩:=h
  obtain ⟨⟨f',xs,Ts⟩,hce,he⟩:=Option.map_eq_some_iff.1 hc
  simp only [Prod.mk.injEq] at he
  obtain ⟨rfl,rfl,rfl⟩:=he
  obtain ⟨⟨fn,hf,hn,hb⟩,hR⟩:=hR
  obtain ⟨us,hrun,hus⟩:=zfh s hce hf hn hb
  generalize hF:xs.flatMap (Av.deep σ.h)=F at hall hR hK
  have s1:=s.frz F
  have hall':=List.all_eq_true.1 hall
  have hargs1:All2 (RepA P (Sd w0 S0 β (σ.frz P F).h w) β (σ.frz P F).h w) (ZY P F σ.h xs Ts) us:=zdv (hus.imp fun x v _ r=>RepA.frz s r F)
  have hargs:All2 (RepA P (Sd w0 S0 β (σ.frz P F).h w) noB noH w) (ZY P F σ.h xs Ts) us:=hargs1.imp fun x v hx r=>r.data (hall' x hx)
  have hcall:=hR w (Sd w0 S0 β (σ.frz P F).h w) _ (fun b hb=>hb.2.1) hargs
  unfold Oper.wp
  rw[hrun]
  refine hcall.mono ?_
  rintro e w' ⟨v,r,rfl,hr,hrep,hE⟩
  have s2:∃σ2,σ2=σ.give P F∧Sim P N w0 S0 β σ2 a w∧RepA P (Sd w0 S0 β σ2.h w') β σ2.h w' r v:=by
   refine ⟨_,rfl,?_,?_⟩
   ·unfold St.give;split
    ·exact s
    ·exact s1
   ·have hh:∀d u,RepD P w' (fun b=>Sd w0 S0 β (σ.frz P F).h w b∨w.heap.size≤b) d u→RepD P w' (Sd w0 S0 β (σ.give P F).h w') d u:=fun d u k=>by
     have:=s1.given hE k
     unfold St.give
     split
     ·have e:(σ.frz P []).h=σ.h:=by
       funext i
       rw[zlE]
       simp only [List.contains_nil,Bool.false_eq_true,if_false]
       have h0:∀n x,zcN P [] σ.h n x=x:=fun n x=>by cases n<;>cases x<;>simp [zcN,ziW]
       have h2:zgg P [] σ.h=id:=funext fun x=>h0 6 x
       have h3:∀o,zkC P [] σ.h o=o:=fun o=>by cases o<;>simp [zkC,h2]
       cases σ.h i<;>simp [h3]
      rw[←e];exact this
     ·exact this
    exact hrep.imp hrep.noH hh
  obtain ⟨σ2,rfl,s2,hrep2⟩:=s2
  obtain ⟨s3,_⟩:=s2.grow hE
  exact ⟨β,_,hK r hr ⟨_,_,_,hrep⟩,s3.put (Zc hd) hrep2⟩
 ·exact h.elim
theorem zjy {S:Nat→Prop}{hh hh':Nat→Option Ow}{β β':Nat→Value}{S':Nat→Prop}{w w':World}{x:Av}{v:Value}(hp:x.plain=true)(k:RepA P S β hh w x v):RepA P S' β' hh' w' x v:=by
 have hc:∀{c:Cl} {u:Value},c.plain=true→RepC P S β hh w c u→RepC P S' β' hh' w' c u:=fun {c u} hc k=>by
  unfold Cl.plain at hc
  split at hc
  ·obtain ⟨rfl,h2⟩:=ZL (show RepA P S β hh w (.c (.d (.v _))) u from k);exact RepD.v h2
  ·cases hc
 cases x with
 |c x=>exact hc hp k
 |agg xs=>obtain ⟨us,hu,ha⟩:=k;exact ⟨us,hu,ha.imp fun x _ hx r=>hc (List.all_eq_true.1 hp x hx) r⟩
 |tup xs=>
  obtain ⟨us,hu,ha⟩:=k
  refine ⟨us,hu,ha.imp fun p _ hpm r=>?_⟩
  have hp':=List.all_eq_true.1 (List.all_eq_true.1 hp p hpm)
  unfold RepP at*
  split at r
  ·next hb=>rw[if_pos hb];obtain ⟨us,hu,ha⟩:=r;exact ⟨us,hu,ha.imp fun x _ hx r=>hc (hp' x hx) r⟩
  ·next hb=>rw[if_neg hb];obtain ⟨y,hy,hr⟩:=r;exact ⟨y,hy,hc (hp' y (by rw[hy];simp)) hr⟩
 |any=>trivial
theorem zp9 (s:Sim P N w0 S0 β σ a w){o:Oper}{K:St→Prop}(hd:Zd N o=true){f:FuncId}{args:List Av}{F:List Nat}{R:Av→Prop}(hc:Zh P σ o=some (f,args,F))(hall:args.all Av.isD=true)(hR:ACalls P f args R)(hp:∀r,R r→r.plain=true)(hK:∀r,R r→okA P r→K (σ.put o.dst r)):
  o.wp P a w (fun a' w'=>∃β' σ',K σ'∧Sim P N w0 S0 β' σ' a' w') fun _ _ _=>False:=by
 obtain ⟨⟨f',xs,Ts⟩,hce,he⟩:=Option.map_eq_some_iff.1 hc
 simp only [Prod.mk.injEq] at he
 obtain ⟨rfl,rfl,rfl⟩:=he
 obtain ⟨⟨fn,hf,hn,hb⟩,hR⟩:=hR
 obtain ⟨us,hrun,hus⟩:=zfh s hce hf hn hb
 generalize hF:xs.flatMap (Av.deep σ.h)=F at hall hR hK
 have hall':=List.all_eq_true.1 hall
 have hargs1:All2 (RepA P (Sd w0 S0 β (σ.frz P F).h w) β (σ.frz P F).h w) (ZY P F σ.h xs Ts) us:=zdv (hus.imp fun x v _ r=>RepA.frz s r F)
 have hargs:All2 (RepA P (Sd w0 S0 β (σ.frz P F).h w) noB noH w) (ZY P F σ.h xs Ts) us:=hargs1.imp fun x v hx r=>r.data (hall' x hx)
 have hcall:=hR w (Sd w0 S0 β (σ.frz P F).h w) _ (fun b hb=>hb.2.1) hargs
 unfold Oper.wp
 rw[hrun]
 refine hcall.mono ?_
 rintro e w' ⟨v,r,rfl,hr,hrep,hE⟩
 obtain ⟨s3,_⟩:=s.grow hE
 exact ⟨β,_,hK r hr ⟨_,_,_,hrep⟩,s3.put (Zc hd) (zjy (hp r hr) hrep)⟩
theorem Zn {α:Type}:∀{l:List (Nat×α)} {n:Nat} {x:α},zd l n=some x→(n,x)∈l
 | [],_,_,h=>by cases h
 |(k,y)::l,n,x,h=>by
  simp only [zd] at h
  split at h
  ·next e=>cases h;subst e;exact List.mem_cons_self ..
  ·exact List.mem_cons_of_mem _ (Zn h)
theorem Build.self' {α:Type}{R:World→(Nat→Prop)→α→List Value→Prop}{e size:Nat}{S T:Nat→Prop}{w:World}{v:Value}{xs:List α}(h:Build R e size S T w v xs):Build R e size (fun k=>v.ownBlock=some k) T w v xs:=by
 obtain ⟨cs,ho,_,he⟩:=h
 exact ⟨cs,ho,fun k hk=>hk,he⟩
theorem zG {α:Type}{l:List (Nat×α)}{i:Nat}:zp l i=true↔∃x,zd l i=some x:=by
 induction l with
 |nil=>simp [zp,zd]
 |cons p l ih=>
  obtain ⟨k,x⟩:=p
  simp only [zp,zd,Bool.or_eq_true,beq_iff_eq] at ih ⊢
  by_cases e:k=i
  ·simp [e]
  ·simp only [e,false_or,if_false];exact ih
theorem zaw {α:Type}:∀(l m:List (Nat×α)) (i:Nat),zd (l++m) i=match zd l i with|some x=>some x|none=>zd m i
 | [],m,i=>rfl
 |(k,x)::l,m,i=>by
  simp only [List.cons_append,zd]
  by_cases e:k=i
  ·rw[if_pos e,if_pos e]
  ·rw[if_neg e,if_neg e,zaw l m i]
theorem zlK {α β':Type}(g:Nat→Nat)(f:α→β'):∀(l:List (Nat×α)) (i:Nat),(∀j,zp l j=true→g j=g i→j=i)→zd (l.map fun p=>(g p.1,f p.2)) (g i)=(zd l i).map f
 | [],i,_=>rfl
 |(k,x)::l,i,h=>by
  simp only [List.map_cons,zd]
  by_cases e:k=i
  ·subst e;simp
  ·rw[if_neg e,if_neg (fun he=>e (h k (by simp [zp]) he))]
   exact zlK g f l i fun j hj he=>h j (by simp only [zp,Bool.or_eq_true];exact .inr hj) he
theorem zdn {α β':Type}(g:Nat→Nat)(f:α→β'):∀(l:List (Nat×α)) (j:Nat),(∀i,zp l i=true→g i≠j)→zd (l.map fun p=>(g p.1,f p.2)) j=none
 | [],j,_=>rfl
 |(k,x)::l,j,h=>by
  simp only [List.map_cons,zd]
  rw[if_neg (h k (by simp [zp]))]
  exact zdn g f l j fun i hi=>h i (by simp only [zp,Bool.or_eq_true];exact .inr hi)
theorem zn2:∀{ρ:List (Nat×Nat)},(ρ.map (·.2)).Nodup→∀{p q:Nat×Nat},p∈ρ→q∈ρ→p.2=q.2→p=q
 | [],_,_,_,hp,_,_=>by cases hp
 |x::ρ,hn,p,q,hp,hq,e=>by
  rw[List.map_cons,List.nodup_cons] at hn
  rcases List.mem_cons.1 hp with hp2|hp2<;>rcases List.mem_cons.1 hq with hq2|hq2
  ·rw[hp2,hq2]
  ·subst hp2;exact absurd (by rw[e];exact List.mem_map.2 ⟨q,hq2,rfl⟩) hn.1
  ·subst hq2;exact absurd (by rw[←e];exact List.mem_map.2 ⟨p,hp2,rfl⟩) hn.1
  ·exact zn2 hn.2 hp2 hq2 e
theorem zew:∀{l:List Nat},zdZ l=true→l.Nodup
 | [],_=>List.nodup_nil
 |x::l,h=>by
  simp only [zdZ,Bool.and_eq_true,Bool.not_eq_true'] at h
  exact List.nodup_cons.2 ⟨by simpa using h.1,zew h.2⟩
theorem zde {α:Type}:∀{l:List (Nat×α)},(l.map (·.1)).Nodup→∀{p:Nat×α},p∈l→zd l p.1=some p.2
 |(k,x)::l,hn,p,hp=>by
  rw[List.map_cons,List.nodup_cons] at hn
  rcases List.mem_cons.1 hp with rfl|hp
  ·simp [zd]
  ·simp only [zd]
   rw[if_neg (fun e=>hn.1 (by rw[e];exact List.mem_map.2 ⟨p,hp,rfl⟩))]
   exact zde hn.2 hp
theorem zgP {h:Nat→Option Ow}{g:Nat→Nat}:∀{l:List (Nat×Ow)},zb2 h g l→∀i o,zd l i=some o→h (g i)=some (o.ren g)
 | [],_,i,o,ho=>by cases ho
 |(k,x)::l,hh,i,o,ho=>by
  simp only [zd] at ho
  split at ho
  ·next e=>cases ho;subst e;exact hh.1
  ·exact zgP hh.2 i o ho
theorem zjz {g:Nat→Nat}{o:Ow}{xs:List Cl}{T:TypeId}(h:o.ren g= .cells xs T):∃ys,o= .cells ys T∧xs=ys.map (Cl.ren g):=by
 cases o<;>simp [Ow.ren] at h
 exact ⟨_,by rw[h.2],h.1.symm⟩
theorem zn3 {g:Nat→Nat}{o:Ow}{k:Nat}{E:TypeId}{xs:List (List D)}(h:o.ren g= .arr k E xs):o= .arr k E xs:=by
 cases o<;>simp [Ow.ren] at h
 rw[h.1,h.2.1,h.2.2]
theorem zsL {g:Nat→Nat}{o:Ow}{f:Hd}{xs:List Cl}(h:o.ren g= .clo f xs):∃ys,o= .clo f ys∧xs=ys.map (Cl.ren g):=by
 cases o<;>simp [Ow.ren] at h
 exact ⟨_,by rw[h.1],h.2.symm⟩
theorem zbs {v:Value}{o:Ow}{b:Nat}{g:Nat→Nat}:occ v (o.ren g) b↔occ v o b:=by cases o<;>exact Iff.rfl
theorem zhj {v:Value}{o:Ow}{b:Nat}{h:Nat→Option Ow}:occ v (o.fix h) b↔occ v o b:=by cases o<;>exact Iff.rfl
theorem zfi (o:Ow)(v:Value):zav o v o v:=by cases o<;>simp [zav]
theorem zlL {o1 o2 o3:Ow}{v1 v2 v3:Value}(h:zav o1 v1 o2 v2)(k:zav o2 v2 o3 v3):zav o1 v1 o3 v3:=by
 cases o1<;>cases o2<;>simp only [zav] at h<;>cases o3<;>simp only [zav] at k ⊢
 ·rw[k,h]
 ·refine ⟨Nat.le_trans h.1 k.1,fun e=>?_⟩
  obtain ⟨h1,h2⟩:=h;obtain ⟨k1,k2⟩:=k
  rw[k2 (by omega),h2 (by omega)]
 ·rw[k,h]
theorem zoO {g g':Nat→Nat}{o1 o2:Ow}{v1 v2:Value}:zav (o1.ren g) v1 (o2.ren g') v2↔zav o1 v1 o2 v2:=by
 cases o1<;>cases o2<;>simp [zav,Ow.ren]
theorem zoP {h:Nat→Option Ow}{o1 o2:Ow}{v1 v2:Value}:zav o1 v1 (o2.fix h) v2↔zav o1 v1 o2 v2:=by
 cases o1<;>cases o2<;>simp [zav,Ow.fix]
def Av.mapC (F:Cl→Cl):Av→Av
 | .c x=>.c (F x)
 | .agg xs=>.agg (xs.map F)
 | .tup xs=>.tup (xs.map fun p=>(p.1,p.2.map F))
 | .any=>.any
theorem RepA.cells {S S':Nat→Prop}{β β':Nat→Value}{h h':Nat→Option Ow}{w w':World}{F:Cl→Cl}{x:Av}{v:Value}(k:∀c u,RepC P S β h w c u→RepC P S' β' h' w' (F c) u)(r:RepA P S β h w x v):
  RepA P S' β' h' w' (x.mapC F) v:=by
 cases x with
 |c x=>exact k x v r
 |agg xs=>obtain ⟨us,hu,ha⟩:=r;exact ⟨us,hu,ZX ha fun x u _ r=>k x u r⟩
 |tup xs=>
  obtain ⟨us,hu,ha⟩:=r
  refine ⟨us,hu,ZX ha fun p u hp r=>?_⟩
  unfold RepP at*
  simp only
  split at r
  ·next hb=>rw[if_pos hb];obtain ⟨us,hu,ha⟩:=r;exact ⟨us,hu,ZX ha fun x u hx r=>k x u r⟩
  ·next hb=>rw[if_neg hb];obtain ⟨y,hy,hr⟩:=r;exact ⟨F y,by rw[hy];rfl,k y u hr⟩
 |any=>trivial
theorem zqa (h:Nat→Option Ow)(x:Av):x.fix h=x.mapC (Cl.fix h):=by cases x<;>rfl
theorem zlM (g:Nat→Nat)(h:Nat→Option Ow)(x:Av):(x.ren g).fix h=x.mapC fun c=>(c.ren g).fix h:=by
 cases x with
 |tup xs=>simp only [Av.ren,Av.fix,Av.mapC,List.map_map,Function.comp_def]
 |agg xs=>simp only [Av.ren,Av.fix,Av.mapC,List.map_map,Function.comp_def]
 |_=>rfl
theorem zhN (h:Nat→Option Ow)(x:Av):zcO P [] h x=x:=by
 have h0:∀n x,zcN P [] h n x=x:=fun n x=>by cases n<;>cases x<;>simp [zcN,ziW]
 have h2:zgg P [] h=id:=funext fun x=>h0 6 x
 cases x<;>simp [zcO,h2]
theorem zqb (s:Sim P N w0 S0 β σ a w){o:Oper}{K:St→Prop}(hd:Zd N o=true){f:FuncId}{xs args:List Av}{Ts:List TypeId}{own0:List (Nat×Ow)}{ρ:List (Nat×Nat)}{t:Nat}{R:Av→List (Nat×Ow)→Prop}(hc:zy P σ o=some (f,xs,Ts))(hx:ZY P [] σ.h xs Ts=args.map (Av.ren (ZC ρ t)))(ho:zce ρ args own0=true)(hh:zb2 σ.h (ZC ρ t) own0)(hR:AProc P f args own0 R)
  (hK:∀r own',R r own'→ZI σ ρ t own'=true∧K ((σ.back ρ t own').put o.dst ((r.ren (ZC ρ t)).fix (zd (zT σ ρ t own'))))):
  o.wp P a w (fun a' w'=>∃β' σ',K σ'∧Sim P N w0 S0 β' σ' a' w') fun _ _ _=>False:=by
 obtain ⟨⟨fn,hf,hn,hb⟩,hR⟩:=hR
 obtain ⟨us,hrun,hus⟩:=zfh s hc hf hn hb
 obtain ⟨g,hg⟩:∃g,g=ZC ρ t:=⟨_,rfl⟩
 rw[←hg] at hx hh hK
 simp only [zce,zev,Bool.and_eq_true,List.all_eq_true,decide_eq_true_eq] at ho
 obtain ⟨⟨⟨⟨⟨hn1,hn2⟩,hz⟩,hown0⟩,hargs⟩,hρo⟩:=ho
 have hn1:=zew hn1
 have hn2:=zew hn2
 have hsp:=zgP hh
 have gρ:∀p∈ρ,g p.1=p.2:=fun p hp=>by rw[hg];unfold ZC;rw[zde hn1 hp]
 have keyρ:∀i,zp ρ i=true↔∃p∈ρ,p.1=i:=fun i=>by simp [zeV]
 have gval:∀i,zp ρ i=true→g i∈ρ.map (·.2):=fun i hi=>by
  obtain ⟨p,hp,rfl⟩:=(keyρ i).1 hi
  rw[gρ p hp];exact List.mem_map_of_mem hp
 have ginj:∀i j,zp ρ i=true→zp ρ j=true→g i=g j→i=j:=fun i j hi hj e=>by
  obtain ⟨p,hp,rfl⟩:=(keyρ i).1 hi
  obtain ⟨q,hq,rfl⟩:=(keyρ j).1 hj
  rw[gρ p hp,gρ q hq] at e
  have:p=q:=zn2 hn2 hp hq e
  rw[this]
 have key0:∀i o,zd own0 i=some o→zp ρ i=true∧∀id∈o.ids,zp own0 id=true:=fun i o hi=>by
  have:=hown0 _ (Zn hi);exact ⟨this.1,by simpa using this.2⟩
 have ρ0:∀i,zp ρ i=true→∃o,zd own0 i=some o:=fun i hi=>by
  obtain ⟨p,hp,rfl⟩:=(keyρ i).1 hi
  exact zG.1 (hρo p hp)
 have unren:∀{S':Nat→Prop} {x:Cl} {v:Value},(∀d u,RepD P w (Sd w0 S0 β σ.h w) d u→RepD P w S' d u)→(∀id∈x.ids,zp own0 id=true)→RepC P (Sd w0 S0 β σ.h w) β σ.h w (x.ren g) v→RepC P S' (fun i=>β (g i)) (zd own0) w x v:=by
  intro S' x v hD hids r
  cases x with
  |d x=>exact hD _ _ r
  |own id off=>
   obtain ⟨xs,T,b,h1,h2,h3⟩:=r
   obtain ⟨o,ho⟩:=zG.1 (hids id (by simp [Cl.ids]))
   rw[hsp id o ho] at h1
   obtain ⟨ys,rfl,_⟩:=zjz (Option.some.inj h1)
   exact ⟨ys,T,b,ho,h2,h3⟩
  |gs id k=>
   obtain ⟨ver,E,xs,h1,h2,h3,h4⟩:=r
   obtain ⟨o,ho⟩:=zG.1 (hids id (by simp [Cl.ids]))
   rw[hsp id o ho] at h1
   have:=zn3 (Option.some.inj h1);subst this
   exact ⟨ver,E,xs,ho,h2,h3,h4⟩
  |ga id k sz i=>
   obtain ⟨ver,E,xs,h1,h2,h3,h4⟩:=r
   obtain ⟨o,ho⟩:=zG.1 (hids id (by simp [Cl.ids]))
   rw[hsp id o ho] at h1
   have:=zn3 (Option.some.inj h1);subst this
   exact ⟨ver,E,xs,ho,h2,h3,h4⟩
  |io T id off=>
   obtain ⟨xs,T',b,h1,h2,h3⟩:=r
   obtain ⟨o,ho⟩:=zG.1 (hids id (by simp [Cl.ids]))
   rw[hsp id o ho] at h1
   obtain ⟨ys,rfl,_⟩:=zjz (Option.some.inj h1)
   exact ⟨ys,T',b,ho,h2,h3⟩
  |fn id=>
   obtain ⟨f,xs,h1,h2,h3⟩:=r
   obtain ⟨o,ho⟩:=zG.1 (hids id (by simp [Cl.ids]))
   rw[hsp id o ho] at h1
   obtain ⟨ys,rfl,_⟩:=zsL (Option.some.inj h1)
   exact ⟨f,ys,ho,h2,h3⟩
  |un=>exact r
 obtain ⟨E,hE⟩:∃E:Env,E=⟨Sd w0 S0 β σ.h w,fun b=>b<w.heap.size∧∀i o,zd own0 i=some o→¬occ (β (g i)) o b,zd own0,fun i=>β (g i)⟩:=⟨_,rfl⟩
 have hES:E.S=Sd w0 S0 β σ.h w:=by rw[hE]
 have hEK:∀b,E.K b↔(b<w.heap.size∧∀i o,zd own0 i=some o→¬occ (β (g i)) o b):=fun b=>by rw[hE]
 have hS1:∀b,Sd w0 S0 β σ.h w b→Sd w E (fun i=>β (g i)) (zd own0) w b:=fun b hb=>⟨.inl (by rw[hES];exact hb),hb.2.1,fun i o hi hc=>hb.2.2 (g i) _ (hsp i o hi) (zbs.2 hc)⟩
 have hD1:∀d u,RepD P w (Sd w0 S0 β σ.h w) d u→RepD P w (Sd w E (fun i=>β (g i)) (zd own0) w) d u:=fun d u h=>h.mono hS1
 have sc:Sim P 0 w E (fun i=>β (g i)) ⟨[],own0⟩ zhG w:=by
  refine ⟨KExt.refl _ _,fun b hb=>((hEK b).1 hb).1,fun i o0 hi=>?_,fun i j oi oj b hi hj hbi hbj=>?_,fun i o b hi hb=>⟨fun hk=>((hEK b).1 hk).2 i o hi hb,(s.new (g i) _ b (hsp i o hi) (zbs.2 hb)).2⟩,fun i o hi=>?_,fun t=>trivial,rfl,fun d hd=>by simp [zhG] at hd⟩
  ·rw[hE] at hi ⊢
   simp only at hi ⊢
   obtain ⟨p,hp,rfl⟩:=(keyρ i).1 (key0 i o0 hi).1
   refine ⟨hz p hp,fun o ho=>?_⟩
   have ho:zd own0 p.1=some o:=ho
   rw[hi] at ho;cases ho
   exact zfi _ _
  ·exact ginj i j (key0 i oi hi).1 (key0 j oj hj).1 (s.inj (g i) (g j) _ _ b (hsp i oi hi) (hsp j oj hj) (zbs.2 hbi) (zbs.2 hbj))
  ·have h1:=s.own (g i) _ (hsp i o hi)
   have hk:=(key0 i o hi).2
   cases o with
   |cells ys T=>
    obtain ⟨b,vs,h2,h3,h4⟩:=h1
    exact ⟨b,vs,h2,h3,All2.of (by have:=h4.length;simpa using this) fun j y u hy hu=>by
     obtain ⟨u',hu',hr⟩:=h4.at (i:=j) (x:=y.ren g) (by rw[List.getElem?_map,hy];rfl)
     rw[hu] at hu';cases hu'
     exact unren hD1 (fun id hid=>hk id (List.mem_flatMap.2 ⟨y,List.mem_of_getElem? hy,hid⟩)) hr⟩
   |arr ver E' ys=>
    obtain ⟨h2,h3,h4⟩:=h1
    exact ⟨h2.frame (zr P) (fun _ _=>rfl) (fun _ _=>rfl) (fun _ h=>h) hS1,h3,h4⟩
   |clo f ys=>
    obtain ⟨vs,h2,h4⟩:=h1
    exact ⟨vs,h2.mono hS1,All2.of (by have:=h4.length;simpa using this) fun j y u hy hu=>by
     obtain ⟨u',hu',hr⟩:=h4.at (i:=j) (x:=y.ren g) (by rw[List.getElem?_map,hy];rfl)
     rw[hu] at hu';cases hu'
     exact unren hD1 (fun id hid=>hk id (List.mem_flatMap.2 ⟨y,List.mem_of_getElem? hy,hid⟩)) hr⟩
 have hav:All2 (RepA P (Sd w E (fun i=>β (g i)) (zd own0) w) (fun i=>β (g i)) (zd own0) w) args us:=by
  have h1:All2 (RepA P (Sd w0 S0 β σ.h w) β σ.h w) (args.map (Av.ren g)) us:=by
   rw[←hx]
   exact zdv (hus.imp fun x v _ r=>by rw[zhN];exact r)
  refine All2.of (by have:=h1.length;simpa using this) fun i x v hxi hv=>?_
  obtain ⟨v',hv',r⟩:=h1.at (i:=i) (x:=x.ren g) (by rw[List.getElem?_map,hxi];rfl)
  rw[hv] at hv';cases hv'
  have hids:=hargs x (List.mem_of_getElem? hxi)
  have hids:∀id∈x.ids,zp own0 id=true:=by simpa using hids
  cases x with
  |c x=>exact unren hD1 hids r
  |agg xs=>
   obtain ⟨us,hu,ha⟩:=r
   exact ⟨us,hu,All2.of (by have:=ha.length;simpa using this) fun j y u hy hu'=>by
    obtain ⟨u',hu2,hr⟩:=ha.at (i:=j) (x:=y.ren g) (by rw[List.getElem?_map,hy];rfl)
    rw[hu'] at hu2;cases hu2
    exact unren hD1 (fun id hid=>hids id (List.mem_flatMap.2 ⟨y,List.mem_of_getElem? hy,hid⟩)) hr⟩
  |tup xs=>
   obtain ⟨us,hu,ha⟩:=r
   refine ⟨us,hu,All2.of (by have:=ha.length;simpa using this) fun j p u hp hu'=>?_⟩
   obtain ⟨u',hu2,hr⟩:=ha.at (i:=j) (x:=(p.1,p.2.map (Cl.ren g))) (by rw[List.getElem?_map,hp];rfl)
   rw[hu'] at hu2;cases hu2
   have hp':∀y∈p.2,∀id∈y.ids,zp own0 id=true:=fun y hy id hid=>hids id (List.mem_flatMap.2 ⟨p,List.mem_of_getElem? hp,List.mem_flatMap.2 ⟨y,hy,hid⟩⟩)
   unfold RepP at*
   simp only at hr
   split at hr
   ·next hb=>
    rw[if_pos hb]
    obtain ⟨vs,hv,hb⟩:=hr
    exact ⟨vs,hv,All2.of (by have:=hb.length;simpa using this) fun j y u hy hu'=>by
     obtain ⟨u',hu2,hr⟩:=hb.at (i:=j) (x:=y.ren g) (by rw[List.getElem?_map,hy];rfl)
     rw[hu'] at hu2;cases hu2
     exact unren hD1 (hp' y (List.mem_of_getElem? hy)) hr⟩
   ·next hb=>
    rw[if_neg hb]
    obtain ⟨y,hy,hr⟩:=hr
    obtain ⟨y',hy1,hy2⟩:∃y',p.2= [y']∧y=y'.ren g:=by
     match hq:p.2,hy with
     | [y'],hy=>simp at hy;exact ⟨y',rfl,hy.symm⟩
    subst hy2
    exact ⟨y',hy1,unren hD1 (hp' y' (by rw[hy1];simp)) hr⟩
  |any=>trivial
 have hcall:=hR w E (fun i=>β (g i)) us sc hav
 unfold Oper.wp
 rw[hrun]
 refine hcall.mono ?_
 rintro e w2 ⟨v,r,β2,own',rfl,hr',s2,hrep⟩
 obtain ⟨hbo,hK⟩:=hK r own' hr'
 clear hcall hav hus hR
 simp only [ZI,zev,List.all_eq_true,Bool.or_eq_true,Bool.and_eq_true,Bool.not_eq_true',decide_eq_true_eq,←hg] at hbo
 have hbo':∀i,zp own' i=true→zp ρ i=true∨(σ.h (g i)=none∧g i<zed):=fun i hi=>by
  obtain ⟨o,ho⟩:=zG.1 hi
  rcases hbo _ (Zn ho) with h|h
  ·exact .inl h
  ·refine .inr ⟨?_,h.1.2⟩
   cases hq:σ.h (g i) with
   |none=>rfl
   |some o2=>have:=zG.2 ⟨o2,hq⟩;have h11:=h.1.1;simp only at h11;rw[this] at h11;cases h11
 have hρs:∀i,zp ρ i=true→∃o,σ.h (g i)=some o:=fun i hi=>by obtain ⟨o,ho⟩:=ρ0 i hi;exact ⟨_,hsp i o ho⟩
 have gi2:∀i j,(zp own' i=true∨zp ρ i=true)→(zp own' j=true∨zp ρ j=true)→g i=g j→i=j:=by
  have cl:∀i,(zp own' i=true∨zp ρ i=true)→zp ρ i=true∨(zp ρ i=false∧σ.h (g i)=none):=fun i hi=>by
   cases hq:zp ρ i with
   |true=>exact .inl rfl
   |false=>
    rcases hi with hi|hi
    ·rcases hbo' i hi with h|h
     ·rw[hq] at h;cases h
     ·exact .inr ⟨rfl,h.1⟩
    ·rw[hq] at hi;cases hi
  intro i j hi hj e
  rcases cl i hi with h1|⟨h1,h1'⟩<;>rcases cl j hj with h2|⟨h2,h2'⟩
  ·exact ginj i j h1 h2 e
  ·obtain ⟨o,ho⟩:=hρs i h1;rw[e,h2'] at ho;cases ho
  ·obtain ⟨o,ho⟩:=hρs j h2;rw[←e,h1'] at ho;cases ho
  ·have n1:zd ρ i=none:=by
    cases hq:zd ρ i with
    |none=>rfl
    |some x=>rw[zG.2 ⟨x,hq⟩] at h1;cases h1
   have n2:zd ρ j=none:=by
    cases hq:zd ρ j with
    |none=>rfl
    |some x=>rw[zG.2 ⟨x,hq⟩] at h2;cases h2
   rw[hg] at e;unfold ZC at e;rw[n1,n2] at e;simpa using e
 obtain ⟨hn,hhn⟩:∃hn:Nat→Option Ow,hn=zd (zT σ ρ t own'):=⟨_,rfl⟩
 have hnA:∀i o,zd own' i=some o→hn (g i)=some (o.ren g):=fun i o hi=>by
  rw[hhn];unfold zT;simp only [zer,zdQ];rw[zaw,←hg]
  rw[zlK g (Ow.ren g) own' i (fun j hj e=>gi2 j i (.inl hj) (.inl (zG.2 ⟨o,hi⟩)) e),hi];rfl
 have hnB:∀j o,hn j=some o→(∃i o',zd own' i=some o'∧j=g i∧o=o'.ren g)∨(j∉ρ.map (·.2)∧(∀i,zp own' i=true→g i≠j)∧σ.h j=some o):=fun j o hj=>by
  by_cases hex:∃i,zp own' i=true∧g i=j
  ·obtain ⟨i,hi,rfl⟩:=hex
   obtain ⟨o',ho'⟩:=zG.1 hi
   rw[hnA i o' ho'] at hj;cases hj
   exact .inl ⟨i,o',ho',rfl,rfl⟩
  ·have hno:∀i,zp own' i=true→g i≠j:=fun i hi e=>hex ⟨i,hi,e⟩
   rw[hhn] at hj;unfold zT at hj;simp only [zer,zdQ] at hj;rw[zaw,←hg,zdn g (Ow.ren g) own' j hno,zcw] at hj
   simp only at hj
   split at hj
   ·cases hj
   ·next hF=>exact .inr ⟨by simpa using hF,hno,hj⟩
 have hnC:∀j o,j∉ρ.map (·.2)→σ.h j=some o→hn j=some o∧∀i,zp own' i=true→g i≠j:=fun j o hj ho=>by
  have hno:∀i,zp own' i=true→g i≠j:=fun i hi e=>by
   rcases hbo' i hi with h|h
   ·exact hj (by rw[←e];exact gval i h)
   ·rw[e,ho] at h;cases h.1
  refine ⟨?_,hno⟩
  rw[hhn];unfold zT;simp only [zer,zdQ];rw[zaw,←hg,zdn g (Ow.ren g) own' j hno,zcw]
  simp only
  rw[if_neg (by simpa using hj)];exact ho
 have hρj:∀j,j∈ρ.map (·.2)→∃i,zp ρ i=true∧g i=j:=fun j hj=>by
  obtain ⟨p,hp,rfl⟩:=List.mem_map.1 hj
  exact ⟨p.1,(keyρ p.1).2 ⟨p,hp,rfl⟩,gρ p hp⟩
 obtain ⟨βn,hβA,hβB⟩:∃βn:Nat→Value,(∀i,zp own' i=true→βn (g i)=β2 i)∧∀j,(∀i,zp own' i=true→g i≠j)→βn j=β j:=by
  classical
  refine ⟨fun j=>if h:∃i,zp own' i=true∧g i=j then β2 (Classical.choose h) else β j,fun i hi=>?_,fun j hj=>?_⟩
  ·have hex:∃i',zp own' i'=true∧g i'=g i:=⟨i,hi,rfl⟩
   simp only [dif_pos hex]
   have:=Classical.choose_spec hex
   rw[gi2 _ i (.inl this.1) (.inl hi) this.2]
  ·have:¬∃i,zp own' i=true∧g i=j:=fun ⟨i,hi,e⟩=>hj i hi e
   simp only [dif_neg this]
 have hbh:(σ.back ρ t own').h=fun j=>(hn j).map (Ow.fix hn):=by
  funext j
  unfold St.back St.h
  simp only [zcm,zbJ,←hhn]
 have hkey':∀{i o},zd own' i=some o→zp own' i=true:=fun h=>zG.2 ⟨_,h⟩
 have hKE:∀b,S0.K b→E.K b:=fun b hb=>(hEK b).2 ⟨Nat.lt_of_lt_of_le (s.hK b hb) s.ext.size,fun i o hi hc=>(s.new (g i) _ b (hsp i o hi) (zbs.2 hc)).1 hb⟩
 have hSE:∀b,Sd w0 S0 β σ.h w b→E.K b:=fun b hb=>(hEK b).2 ⟨hb.2.1,fun i o hi hc=>hb.2.2 (g i) _ (hsp i o hi) (zbs.2 hc)⟩
 have restK:∀j o b,j∉ρ.map (·.2)→σ.h j=some o→occ (β j) o b→E.K b:=fun j o b hj ho hb=>(hEK b).2 ⟨(s.new j o b ho hb).2,fun i o' hi hc=>hj (by
  have:=s.inj (g i) j _ _ b (hsp i o' hi) ho (zbs.2 hc) hb
  rw[←this];exact gval i (key0 i o' hi).1)⟩
 have T1:∀b,Sd w0 S0 β σ.h w b→Sd w0 S0 βn (σ.back ρ t own').h w2 b:=fun b hb=>⟨hb.1,Nat.lt_of_lt_of_le hb.2.1 s2.ext.size,fun j o hj hc=>by
  rw[hbh] at hj
  obtain ⟨o',hj2,rfl⟩:=Option.map_eq_some_iff.1 hj
  rw[zhj] at hc
  rcases hnB j o' hj2 with ⟨i,o2,h1,rfl,rfl⟩|⟨h1,h2,h3⟩
  ·rw[hβA i (hkey' h1),zbs] at hc
   exact (s2.new i o2 b h1 hc).1 (hSE b hb)
  ·rw[hβB j h2] at hc
   exact hb.2.2 j _ h3 hc⟩
 have T2:∀b,Sd w E β2 (zd own') w2 b→Sd w0 S0 βn (σ.back ρ t own').h w2 b:=fun b hb=>by
  by_cases hS:Sd w0 S0 β σ.h w b
  ·exact T1 b hS
  ·have hnK:¬E.K b:=by
    rcases hb.1 with h|h
    ·rw[hES] at h;exact absurd h hS
    ·exact h
   refine ⟨.inr fun h=>hnK (hKE b h),hb.2.1,fun j o hj hc=>?_⟩
   rw[hbh] at hj
   obtain ⟨o',hj2,rfl⟩:=Option.map_eq_some_iff.1 hj
   rw[zhj] at hc
   rcases hnB j o' hj2 with ⟨i,o2,h1,rfl,rfl⟩|⟨h1,h2,h3⟩
   ·rw[hβA i (hkey' h1),zbs] at hc
    exact hb.2.2 i o2 h1 hc
   ·rw[hβB j h2] at hc
    exact hnK (restK j _ b h1 h3 hc)
 have hSame:Same (Sd w0 S0 β σ.h w) w w2:=fun b hb=>s2.ext.block b (hSE b hb)
 have stay:∀j o o',σ.h j=some o→hn j=some o'→zav o (β j) o' (βn j):=fun j o o' ho ho'=>by
  rcases hnB j o' ho' with ⟨i,o2,h1,rfl,rfl⟩|⟨h1,h2,h3⟩
  ·have hρi:zp ρ i=true:=by
    rcases hbo' i (hkey' h1) with h|h
    ·exact h
    ·rw[ho] at h;cases h.1
   obtain ⟨o0,h0⟩:=ρ0 i hρi
   rw[hsp i o0 h0] at ho;cases ho
   have hk:=(s2.kept i o0 (by rw[hE];exact h0)).2 o2 h1
   rw[hE] at hk
   rw[hβA i (hkey' h1)]
   exact zoO.2 hk
  ·rw[ho] at h3;cases h3
   rw[hβB j h2];exact zfi _ _
 have R1:∀{x:Cl} {v:Value},RepC P (Sd w0 S0 β σ.h w) β σ.h w x v→RepC P (Sd w0 S0 βn (σ.back ρ t own').h w2) βn (σ.back ρ t own').h w2 (x.fix hn) v:=by
  intro x v r
  cases x with
  |d x=>exact RepD.frame r hSame T1
  |own id off=>
   have hone:=RepC.one r
   obtain ⟨xs,T,b,h1,h2,h3⟩:=r
   simp only [Cl.fix]
   split
   ·next ys T' hq=>
    have hs:=stay id _ _ h1 hq
    simp only [zav] at hs
    exact ⟨_,T',b,by rw[hbh];simp only [hq];rfl,by rw[hs,h2],h3⟩
   ·exact hone
  |io T0 id off=>
   have hone:=RepC.one r
   obtain ⟨xs,T,b,h1,h2,h3⟩:=r
   simp only [Cl.fix]
   split
   ·next ys T' hq=>
    have hs:=stay id _ _ h1 hq
    simp only [zav] at hs
    exact ⟨_,T',b,by rw[hbh];simp only [hq];rfl,by rw[hs,h2],h3⟩
   ·exact hone
  |gs id k=>
   have hone:=RepC.one r
   obtain ⟨ver,E',xs,h1,h2,h3,h4⟩:=r
   simp only [Cl.fix]
   split
   ·next ver' E2 ys hq=>
    have hs:=stay id _ _ h1 hq
    simp only [zav] at hs
    refine ⟨ver',E2,ys,by rw[hbh];simp only [hq];rfl,Nat.le_trans h2 hs.1,fun e=>?_,h4⟩
    have e1:k=ver:=by have:=hs.1;omega
    have e2:ver=ver':=by omega
    rw[hs.2 e2];exact h3 e1
   ·exact hone
  |ga id k sz i=>
   have hone:=RepC.one r
   obtain ⟨ver,E',xs,h1,h2,h3,h4⟩:=r
   simp only [Cl.fix]
   split
   ·next ver' E2 ys hq=>
    have hs:=stay id _ _ h1 hq
    simp only [zav] at hs
    refine ⟨ver',E2,ys,by rw[hbh];simp only [hq];rfl,Nat.le_trans h2 hs.1,fun e=>?_,h4⟩
    have e1:k=ver:=by have:=hs.1;omega
    have e2:ver=ver':=by omega
    rw[hs.2 e2];exact h3 e1
   ·exact hone
  |fn id=>
   have hone:=RepC.one r
   obtain ⟨f,xs,h1,h2,h3⟩:=r
   simp only [Cl.fix]
   split
   ·next f' ys hq=>
    have hs:=stay id _ _ h1 hq
    simp only [zav] at hs
    exact ⟨f',_,by rw[hbh];simp only [hq];rfl,by rw[hs];exact h2,h3⟩
   ·exact hone
  |un=>exact r
 have R2:∀{x:Cl} {v:Value},RepC P (Sd w E β2 (zd own') w2) β2 (zd own') w2 x v→RepC P (Sd w0 S0 βn (σ.back ρ t own').h w2) βn (σ.back ρ t own').h w2 ((x.ren g).fix hn) v:=by
  intro x v r
  cases x with
  |d x=>exact RepD.mono r T2
  |own id off=>
   obtain ⟨xs,T,b,h1,h2,h3⟩:=r
   have hq:=hnA id _ h1
   simp only [Cl.ren,Cl.fix,hq,Ow.ren]
   exact ⟨_,T,b,by rw[hbh];simp only [hq];rfl,by rw[hβA id (hkey' h1)];exact h2,h3⟩
  |io T0 id off=>
   obtain ⟨xs,T,b,h1,h2,h3⟩:=r
   have hq:=hnA id _ h1
   simp only [Cl.ren,Cl.fix,hq,Ow.ren]
   exact ⟨_,T,b,by rw[hbh];simp only [hq];rfl,by rw[hβA id (hkey' h1)];exact h2,h3⟩
  |gs id k=>
   obtain ⟨ver,E',xs,h1,h2,h3,h4⟩:=r
   have hq:=hnA id _ h1
   simp only [Cl.ren,Cl.fix,hq,Ow.ren]
   exact ⟨ver,E',xs,by rw[hbh];simp only [hq];rfl,h2,fun e=>by rw[hβA id (hkey' h1)];exact h3 e,h4⟩
  |ga id k sz i=>
   obtain ⟨ver,E',xs,h1,h2,h3,h4⟩:=r
   have hq:=hnA id _ h1
   simp only [Cl.ren,Cl.fix,hq,Ow.ren]
   exact ⟨ver,E',xs,by rw[hbh];simp only [hq];rfl,h2,fun e=>by rw[hβA id (hkey' h1)];exact h3 e,h4⟩
  |fn id=>
   obtain ⟨f,xs,h1,h2,h3⟩:=r
   have hq:=hnA id _ h1
   simp only [Cl.ren,Cl.fix,hq,Ow.ren]
   exact ⟨f,_,by rw[hbh];simp only [hq];rfl,by rw[hβA id (hkey' h1)];exact h2,h3⟩
  |un=>exact r
 have sn:Sim P N w0 S0 βn (σ.back ρ t own') a w2:=by
  refine ⟨s.ext.trans (s2.ext.mono hKE),s.hK,fun i o0 hi0=>⟨(s.kept i o0 hi0).1,fun o ho=>?_⟩,fun i j oi oj b hi hj hbi hbj=>?_,fun i o b hi hb=>?_,fun i o hi=>?_,fun t'=>?_,s.sz,s.dfr⟩
  ·rw[hbh] at ho
   obtain ⟨o1,ho1,rfl⟩:=Option.map_eq_some_iff.1 ho
   refine zoP.2 ?_
   cases hq:σ.h i with
   |some o2=>exact zlL ((s.kept i o0 hi0).2 o2 hq) (stay i o2 o1 hq ho1)
   |none=>
    exfalso
    rcases hnB i o1 ho1 with ⟨i',o2,h1,rfl,_⟩|⟨h1,h2,h3⟩
    ·rcases hbo' i' (hkey' h1) with h|h
     ·obtain ⟨o3,ho3⟩:=hρs i' h;rw[hq] at ho3;cases ho3
     ·have:=(s.kept _ o0 hi0).1;omega
    ·rw[hq] at h3;cases h3
  ·rw[hbh] at hi hj
   obtain ⟨o1,hi2,rfl⟩:=Option.map_eq_some_iff.1 hi
   obtain ⟨o2,hj2,rfl⟩:=Option.map_eq_some_iff.1 hj
   rw[zhj] at hbi hbj
   rcases hnB i o1 hi2 with ⟨i',o3,h1,rfl,rfl⟩|⟨h1,h2,h3⟩<;>rcases hnB j o2 hj2 with ⟨j',o4,k1,rfl,rfl⟩|⟨k1,k2,k3⟩
   ·rw[hβA i' (hkey' h1),zbs] at hbi;rw[hβA j' (hkey' k1),zbs] at hbj
    rw[s2.inj i' j' o3 o4 b h1 k1 hbi hbj]
   ·rw[hβA i' (hkey' h1),zbs] at hbi;rw[hβB j k2] at hbj
    exact absurd (restK j _ b k1 k3 hbj) (s2.new i' o3 b h1 hbi).1
   ·rw[hβB i h2] at hbi;rw[hβA j' (hkey' k1),zbs] at hbj
    exact absurd (restK i _ b h1 h3 hbi) (s2.new j' o4 b k1 hbj).1
   ·rw[hβB i h2] at hbi;rw[hβB j k2] at hbj
    exact s.inj i j _ _ b h3 k3 hbi hbj
  ·rw[hbh] at hi
   obtain ⟨o1,hi2,rfl⟩:=Option.map_eq_some_iff.1 hi
   rw[zhj] at hb
   rcases hnB i o1 hi2 with ⟨i',o3,h1,rfl,rfl⟩|⟨h1,h2,h3⟩
   ·rw[hβA i' (hkey' h1),zbs] at hb
    exact ⟨fun h=>(s2.new i' o3 b h1 hb).1 (hKE b h),(s2.new i' o3 b h1 hb).2⟩
   ·rw[hβB i h2] at hb
    exact ⟨(s.new i _ b h3 hb).1,Nat.lt_of_lt_of_le (s.new i _ b h3 hb).2 s2.ext.size⟩
  ·have hi':=hi
   rw[hbh] at hi
   obtain ⟨o1,hi2,rfl⟩:=Option.map_eq_some_iff.1 hi
   rcases hnB i o1 hi2 with ⟨i',o3,h1,rfl,rfl⟩|⟨h1,h2,h3⟩
   ·have hw:=s2.own i' o3 h1
    rw[hβA i' (hkey' h1)]
    cases o3 with
    |cells xs T=>obtain ⟨b,vs,q1,q2,q3⟩:=hw;exact ⟨b,vs,q1,q2,ZX (ZX (R':=fun x u=>RepC P (Sd w0 S0 βn (σ.back ρ t own').h w2) βn (σ.back ρ t own').h w2 (x.fix hn) u) q3 fun x u _ r=>R2 r) fun x u _ r=>r⟩
    |arr ver E' xs=>obtain ⟨q1,q2,q3⟩:=hw;exact ⟨q1.frame (zr P) (fun _ _=>rfl) (fun _ _=>rfl) (fun _ h=>h) T2,q2,q3⟩
    |clo f xs=>obtain ⟨vs,q1,q3⟩:=hw;exact ⟨vs,q1.mono T2,ZX (ZX (R':=fun x u=>RepC P (Sd w0 S0 βn (σ.back ρ t own').h w2) βn (σ.back ρ t own').h w2 (x.fix hn) u) q3 fun x u _ r=>R2 r) fun x u _ r=>r⟩
   ·have hw:=s.own i o1 h3
    rw[hβB i h2]
    cases o1 with
    |cells xs T=>
     obtain ⟨b,vs,q1,q2,q3⟩:=hw
     have hbK:=restK i _ b h1 h3 (.inl (by rw[q1];rfl))
     exact ⟨b,vs,q1,(s2.ext.block b hbK).trans q2,ZX q3 fun x u _ r=>R1 r⟩
    |arr ver E' xs=>
     obtain ⟨q1,q2,q3⟩:=hw
     have hbk:∀b,(β i).ownBlock=some b→bk (β i)=some b:=fun b hb=>by
      obtain ⟨A,c,hs⟩:=q1.slice
      rw[hs] at hb ⊢;exact hb
     refine ⟨q1.self'.frame (zr P) (fun b hb=>s2.ext.block b (restK i _ b h1 h3 (.inl (hbk b hb)))) (fun b hb=>hSame b hb.1) (fun _ _=>trivial) T1,q2,q3⟩
    |clo f xs=>obtain ⟨vs,q1,q3⟩:=hw;exact ⟨vs,q1.frame T1 hSame fun b hb=>s2.ext.block b (restK i _ b h1 h3 hb),ZX q3 fun x u _ r=>R1 r⟩
  ·have e:(σ.back ρ t own').tmp t'=(σ.tmp t').fix hn:=by
    unfold St.back St.tmp
    simp only [zcm,zbJ,zaU,←hhn]
    cases zd σ.tmps t'<;>rfl
   rw[e]
   rw[zqa]
   exact RepA.cells (fun c u r=>R1 r) (s.tmp t')
 refine ⟨βn,_,hK,sn.put (Zc hd) ?_⟩
 rw[←hhn,zlM]
 exact RepA.cells (fun c u r=>R2 r) hrep
theorem Oper.wp_mono' {o:Oper}{K K':Act→World→Prop}{Q:Exit→Act→World→Prop}(h:o.wp P a w K fun _ _ _=>False)(hk:∀a w,K a w→K' a w):o.wp P a w K' Q:=by
 unfold Oper.wp at*
 generalize (execOp a.eval o).run P w=r at*
 cases r with
 |ok nx w1=>
  cases nx<;>simp only [Oper.upon] at h ⊢ <;>first
   |exact hk _ _ h
   |exact h.elim
   |exact Calls.mono h fun e w'' he=>by
     cases e with
     |returned v=>exact hk _ _ he
     |panicked c=>exact he.elim
     |outgrown=>obtain ⟨_,_,h⟩:=he;exact h.elim
   |exact Rows.mono h fun _ _ he=>hk _ _ he
 |halt x w1=>cases x<;>simp only [Oper.upon] at h
theorem zoQ (s:Sim P N w0 S0 β σ a w){o:Oper}{K:St→Prop}(h:zjv P N σ o K):o.wp P a w (fun a' w'=>∃β' σ',K σ'∧Sim P N w0 S0 β' σ' a' w') fun _ _ _=>False:=by
 obtain ⟨hd,h⟩:=h
 split at h
 ·next r hv=>
  obtain ⟨u,hrun,hrep⟩:=zhF s hv
  unfold Oper.wp
  rw[hrun]
  exact ⟨β,_,h,s.put (Zc hd) hrep⟩
 ·split at h
  ·next σ' hw=>exact Oper.wp_mono' (zgh s hd hw) fun a w ⟨β',hs⟩=>⟨β',σ',h,hs⟩
  ·exact zjx s hd h
theorem zsM (s:Sim P N w0 S0 β σ a w){ops:Array Oper}{o:Oper}{K:St→Prop}{Q:Exit→Act→World→Prop}(h:opA P N ops σ o K):
  if Region.wanted o (yielded ops a.tmps) then o.wp P a w (fun a' w'=>∃β' σ',K σ'∧Sim P N w0 S0 β' σ' a' w') Q else ∃β' σ',K σ'∧Sim P N w0 S0 β' σ' (a.put o.dst undef) w:=by
 unfold opA at h
 split at h
 ·next g hg=>
  rw[zhJ s hg]
  cases g with
  |true=>exact Oper.wp_mono' (zoQ s (h.1 rfl)) fun _ _ h=>h
  |false=>exact ⟨β,_,(h.2 rfl).2,s.put (Zc (h.2 rfl).1) ⟨[],rfl,.nil⟩⟩
 ·exact h.elim
theorem Sim.deferred (s:Sim P N w0 S0 β σ a w){d:Deferred}(hi:zoK P d):Sim P N w0 S0 β σ { a with defers:=d::a.defers } w:=
 ⟨s.ext,s.hK,s.kept,s.inj,s.new,s.own,s.tmp,s.sz,fun d' hd'=>by
  rcases List.mem_cons.1 hd' with rfl|h
  ·exact hi
  ·exact s.dfr d' h⟩
theorem zlN (s:Sim P N w0 S0 β σ a w){o:Oper}{K:St→Prop}(hd:Zd N o=true)(h:extK P σ o K):o.wp P a w (fun a' w'=>∃β' σ',K σ'∧Sim P N w0 S0 β' σ' a' w') fun _ _ _=>False:=by
 have sep:∀{id m left cur v},σ.h id=some (.clo (.it m left cur) [])→v=β id→∀b,Sd w0 S0 β σ.h w b→v≠ .pointer (some ⟨b,0,none⟩):=fun {id m left cur v} hid hv b hb he=>hb.2.2 id _ hid (.inl (by rw[←hv,he];rfl))
 have tup2:∀{S:Nat→Prop} {β:Nat→Value} {h:Nat→Option Ow} {w:World} {k:ByteArray} {t:Tree} {y:Value},k.size≤140737488351232→RepT w S t y→RepA P S β h w (.tup [(false,[.d (.v (.string k))]),(false,[.d (.tr t)])]) (.tuple #[.string k,y]):=fun {S β h w k t y} hk hy=>
  ⟨[.string k,y],rfl,.cons (zcn (RepD.v (by simpa [z7] using hk))) (.cons (zcn (RepD.tr hy)) .nil)⟩
 cases h with
 |sem h=>exact h N w0 S0 β a w s hd
 | @range T x d m ho hdst hx hT hnd hz hk=>
  have hr:=s.ev x
  rw[hx] at hr
  cases (show RepD P w (Sd w0 S0 β σ.h w) (.mp m) (a.eval x) from hr) with
  |mp hm=>
   obtain ⟨o',hrun,hit⟩:=ItRep.start (P:=P) hT hm hnd
   have hid:σ.h d=none:=Option.isNone_iff_eq_none.1 hz.1
   have hE:w.grownBy (w.alloc o') none:=World.grownBy_alloc w o' none
   have s1:=(s.write (id:=d) (o':=.clo (.it m (m.map (·.1)) none) []) (v':=.pointer (some ⟨w.heap.size,0,none⟩)) (row:=none) (fun _=>hz.2) (fun f xs h=>by rw[hid] at h;cases h) hE (fun b h=>by cases h) (fun b h=>by
    simp [bk] at h;subst h;exact .inr ⟨Nat.le_refl _,by rw[zz];omega⟩) (fun xs T h=>by rw[hid] at h;cases h) (fun ver E xs h=>by rw[hid] at h;cases h)
    fun hS k=>⟨[],⟨rfl,hit.frame hS (fun _ _=>rfl) fun _ _=>rfl⟩,.nil⟩).1
   unfold Oper.wp execOp
   rw[ho]
   simp only [Sem.run_bind,hrun,Result.andThen_ok,Sem.run_pure]
   show ∃β' σ',K σ'∧Sim P N w0 S0 β' σ' (a.put o.dst _) _
   rw[hdst]
   exact ⟨_,_,hk,s1.put (fun d' e=>Zc hd d' (by rw[hdst];exact e)) ⟨.it m (m.map (·.1)) none,[],by rw[zt];simp,by simp,rfl⟩⟩
 | @next x id m left cur ho hx hid h0 h1=>
  have hr:=s.ev x
  rw[hx] at hr
  obtain ⟨_,_,_,hv,_⟩:=hr
  obtain ⟨us,⟨_,hit⟩,_⟩:=s.own id _ hid
  rw[←hv] at hit
  unfold Oper.wp execOp
  rw[ho]
  rcases hit.next (P:=P) (sep hid hv) o.type with ⟨hl,hrun⟩|⟨k,y,w',b,hkl,hks,hvb,hy,hrun,hg,hsz,hit'⟩
  ·simp only [Sem.run_bind,hrun,Result.andThen_ok,Sem.run_pure]
   exact ⟨β,_,h0 hl,s.put (Zc hd) ⟨[.bool false],rfl,.cons (zcn (RepD.v rfl)) .nil⟩⟩
  ·have hSame:Same (Sd w0 S0 β σ.h w) w w':=fun i hi=>hg.block i hi.2.1 fun e=>by cases e;exact sep hid hv b hi hvb
   obtain ⟨s1,k1⟩:=s.write (id:=id) (o':=.clo (.it m (left.filter fun x=>decide (x≠k)) (some k)) []) (v':=β id) (fun h=>by rw[hid] at h;cases h) (fun f xs h=>⟨⟨_,_,rfl⟩,rfl⟩) hg (fun b' h=>by cases h;exact ⟨_,hid,by rw[←hv,hvb];rfl⟩) (fun b' h=>by rw[←hv,hvb] at h;exact .inl (by simpa [bk] using h)) (fun xs T h=>by rw[hid] at h;cases h) (fun ver E xs h=>by rw[hid] at h;cases h)
    fun hS k=>⟨[],⟨rfl,(show ItRep _ _ _ _ _ (β id) from hv▸hit').frame hS (fun _ _=>rfl) fun _ _=>rfl⟩,.nil⟩
   simp only [Sem.run_bind,hrun,Result.andThen_ok,Sem.run_pure]
   refine ⟨_,_,h1 k hkl hks,s1.put (Zc hd) ⟨[.bool true,.string k,y],rfl,.cons (zcn (RepD.v rfl)) (.cons (zcn (RepD.v (by simpa [z7] using hks))) (.cons (zcn (k1.d _ _ (.tr hy))) .nil))⟩⟩
 | @entry x id m left k ho hx hid hk=>
  have hr:=s.ev x
  rw[hx] at hr
  obtain ⟨_,_,_,hv,_⟩:=hr
  obtain ⟨us,⟨_,hit⟩,_⟩:=s.own id _ hid
  rw[←hv] at hit
  obtain ⟨y,hy,hks,hrun⟩:=hit.entry (P:=P)
  unfold Oper.wp execOp
  rw[ho]
  simp only [Sem.run_bind,hrun,Result.andThen_ok,Sem.run_pure]
  exact ⟨β,_,hk,s.put (Zc hd) (tup2 hks hy)⟩
 | @clo fn first caps d q ho hdst h hk=>
  have hd2:∀d',some d=some d'→d'<N:=fun d' e=>Zc hd d' (by rw[hdst];exact e)
  unfold zcL at h
  split at h
  case h_2=>cases h
  next f=>
  split at h
  ·next hfirst=>
   obtain ⟨cs,hcs,hn⟩:=Option.bind_eq_some_iff.1 h
   obtain ⟨hid,hzd,rfl⟩:=zhK hn
   have hr:=zjw hcs (zfG s caps)
   obtain ⟨s1,s2⟩:=s.closure (id:=d) f hzd hid hr
   unfold Oper.wp execOp
   rw[ho]
   have ef:first= #[]:=by simpa using hfirst
   subst ef
   have hrun:(Instr.makeFunc (.func f) ((#[]:Array Operand).map a.eval) (caps.map a.eval)).run P w= .ok (.func (.func f) #[] (caps.toList.map a.eval).toArray) w:=by
    have e:caps.map a.eval=(caps.toList.map a.eval).toArray:=by rw[←Array.toList_inj];simp
    rw[e,Array.map_empty];rfl
   simp only [Sem.run_bind,hrun,Result.andThen_ok,Sem.run_pure]
   show ∃β' σ',K σ'∧Sim P N w0 S0 β' σ' (a.put o.dst _) _
   rw[hdst]
   exact ⟨_,_,hk,s1.put hd2 s2⟩
  ·cases h
 |lend hc ha hR hp h=>exact zp9 s hd hc ha hR hp h
 |proc hc hx ho hh hR h=>exact zqb s hd hc hx ho hh hR h
 | @defer x name args Ts y ho hx hdo h=>
  have hI:=hdo _ _ _ w _ (args.toList.map a.eval) (hx▸s.ev x)
  unfold Oper.wp execOp
  rw[ho]
  have hmap:args.map a.eval=(args.toList.map a.eval).toArray:=by rw[←Array.toList_inj];simp
  simp only [resolve,Sem.run_bind,Sem.run_pure,Result.andThen_ok,hmap]
  exact ⟨β,_,h,(s.deferred hI).put (Zc hd) trivial⟩
 | @frz F σ' hw h=>
  have s1:Sim P N w0 S0 β (σ.give P F) a w:=by
   unfold St.give;split
   ·exact s
   ·exact s.frz _
  exact Oper.wp_mono' (zgh s1 hd hw) fun a w ⟨β',hs⟩=>⟨β',σ',h,hs⟩
 | @frzv F r hv h=>
  have s1:Sim P N w0 S0 β (σ.give P F) a w:=by
   unfold St.give;split
   ·exact s
   ·exact s.frz _
  obtain ⟨u,hrun,hrep⟩:=zhF s1 hv
  unfold Oper.wp
  rw[hrun]
  exact ⟨β,_,h,s1.put (Zc hd) hrep⟩
theorem zoR (s:Sim P N w0 S0 β σ a w){o:Oper}{K:St→Prop}(h:zhH P N σ o K):o.wp P a w (fun a' w'=>∃β' σ',K σ'∧Sim P N w0 S0 β' σ' a' w') fun _ _ _=>False:=by
 obtain ⟨hd,h⟩:=h
 split at h
 ·next r hv=>
  obtain ⟨u,hrun,hrep⟩:=zhF s hv
  unfold Oper.wp
  rw[hrun]
  exact ⟨β,_,h,s.put (Zc hd) hrep⟩
 ·split at h
  ·next σ' hw=>exact Oper.wp_mono' (zgh s hd hw) fun a w ⟨β',hs⟩=>⟨β',σ',h,hs⟩
  ·rcases h with h|h
   ·exact zjx s hd h
   ·exact zlN s hd h
theorem zn4 (s:Sim P N w0 S0 β σ a w){ops:Array Oper}{o:Oper}{K:St→Prop}{Q:Exit→Act→World→Prop}(h:opX P N ops σ o K):
  if Region.wanted o (yielded ops a.tmps) then o.wp P a w (fun a' w'=>∃β' σ',K σ'∧Sim P N w0 S0 β' σ' a' w') Q else ∃β' σ',K σ'∧Sim P N w0 S0 β' σ' (a.put o.dst undef) w:=by
 unfold opX at h
 split at h
 ·next g hg=>
  rw[zhJ s hg]
  cases g with
  |true=>exact Oper.wp_mono' (zoR s (h.1 rfl)) fun _ _ h=>h
  |false=>exact ⟨β,_,(h.2 rfl).2,s.put (Zc (h.2 rfl).1) ⟨[],rfl,.nil⟩⟩
 ·exact h.elim
theorem zhO {ops:Array Oper}{K:St→Prop}{Q:Exit→Act→World→Prop}(hQ:∀β σ a w,K σ→Sim P N w0 S0 β σ a w→Q .normal a w):∀(l:List Oper) (β:Nat→Value) (σ:St) (a:Act) (w:World),zhI P N ops l σ K→Sim P N w0 S0 β σ a w→wpList P ops Q l a w
 | [],β,σ,a,w,h,s=>hQ β σ a w h s
 |o::l,β,σ,a,w,h,s=>by
  have h1:=zn4 (Q:=Q) s (K:=fun σ'=>zhI P N ops l σ' K) h
  refine wpList_step fun K' hK'=>?_
  split at h1
  ·next hw=>rw[if_pos hw];exact Oper.wp_mono (fun a w ⟨β',σ',h2,h3⟩=>hK' a w (zhO hQ l β' σ' a w h2 h3)) h1
  ·next hw=>
   rw[if_neg hw]
   obtain ⟨β',σ',h2,h3⟩:=h1
   exact hK' _ _ (zhO hQ l β' σ' _ w h2 h3)
end
end Go.Smd
end
