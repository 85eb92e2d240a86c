/- Part 5. -/
import Derived.Test.YtdgnolbdcmgfoaaGreatQD04
set_option linter.unusedVariables false
set_option linter.unusedSimpArgs false
set_option maxRecDepth 100000
set_option maxHeartbeats 8000000
section
namespace Go.Smd
open Go.RowKit
theorem znY {α:Type}(off:Nat):∀(vs:List α) (k:Nat) (cs:List α),off+k+vs.length≤cs.length→(vs.zipIdx k).foldl (fun cs p=>cs.set (off+p.2) p.1) cs=cs.take (off+k)++vs++cs.drop (off+k+vs.length)
 | [],k,cs,_=>by simp
 |v::vs,k,cs,h=>by
  simp only [List.length_cons] at h
  rw[List.zipIdx_cons,List.foldl_cons,znY off vs (k+1) (cs.set (off+k) v) (by simp;omega)]
  have h1:off+k<cs.length:=by omega
  apply List.ext_getElem?
  intro j
  simp only [List.getElem?_append,List.length_append,List.length_take,List.length_set,List.getElem?_take,List.getElem?_drop,List.getElem?_set,List.length_cons]
  by_cases a1:j<off+k
  ·simp only [show j<min (off+(k+1)) cs.length+vs.length by omega,if_true,show j<min (off+(k+1)) cs.length by omega,show j<off+(k+1) by omega,show j<min (off+k) cs.length+(vs.length+1) by omega,show j<min (off+k) cs.length by omega,a1,show ¬(off+k=j) by omega,if_false]
  ·by_cases a2:j=off+k
   ·subst a2
    simp only [show off+k<min (off+(k+1)) cs.length+vs.length by omega,if_true,show off+k<min (off+(k+1)) cs.length by omega,show off+k<off+(k+1) by omega,show off+k<min (off+k) cs.length+(vs.length+1) by omega,show ¬off+k<min (off+k) cs.length by omega,if_false,h1]
    simp [show off+k - min (off+k) cs.length=0 by omega]
   ·by_cases a3:j<off+k+1+vs.length
    ·simp only [show j<min (off+(k+1)) cs.length+vs.length by omega,if_true,show ¬j<min (off+(k+1)) cs.length by omega,if_false,show j<min (off+k) cs.length+(vs.length+1) by omega,show ¬j<min (off+k) cs.length by omega]
     have:j - min (off+k) cs.length=(j - min (off+(k+1)) cs.length)+1:=by omega
     rw[this];simp
    ·simp only [show ¬j<min (off+(k+1)) cs.length+vs.length by omega,if_false,show ¬j<min (off+k) cs.length+(vs.length+1) by omega]
     have e:off+(k+1)+vs.length+(j - (min (off+(k+1)) cs.length+vs.length))=off+k+(vs.length+1)+(j - (min (off+k) cs.length+(vs.length+1))):=by omega
     rw[e,if_neg (by omega)]
theorem zlz (off:Nat)(vs cs:Array Value)(h:off+vs.size≤cs.size):(vs.zipIdx.foldl (fun cs (p:Value×Nat)=>cs.setIfInBounds (off+p.2) p.1) cs).toList=splice cs.toList off vs.toList:=by
 have h1:∀(l:List (Value×Nat)) (cs:Array Value),(l.foldl (fun cs (p:Value×Nat)=>cs.setIfInBounds (off+p.2) p.1) cs).toList=l.foldl (fun cs (p:Value×Nat)=>cs.set (off+p.2) p.1) cs.toList:=by
  intro l
  induction l with
  |nil=>intro cs;rfl
  |cons x l ih=>intro cs;simp only [List.foldl_cons];rw[ih];simp
 rw[←Array.foldl_toList,h1]
 have h2:=znY off vs.toList 0 cs.toList (by simpa using h)
 simp only [Nat.add_zero] at h2
 simpa [splice] using h2
theorem zlA {α β:Type}{f:α→Option β}{g:α→β}:∀{l:List α},(∀x∈l,f x=some (g x))→l.mapM f=some (l.map g)
 | [],_=>by simp
 |x::l,h=>by
  have h0:=h x (by simp)
  have ih:=zlA (l:=l) fun y hy=>h y (by simp [hy])
  simp [List.mapM_cons,h0,ih]
theorem zmP {α:Type}(l:List α)(a b:Nat):l.extract a b=(l.drop a).take (b - a):=by
 first|rfl|(rw[List.extract_eq_take_drop,List.drop_take])
section
variable {P:Program} {N:Nat} {w0:World} {S0:Env} {β:Nat→Value} {σ:St} {a:Act} {w:World}
theorem All2.splice {α β':Type}{R:α→β'→Prop}{xs ys:List α}{us vs:List β'}{off:Nat}(h:All2 R xs us)(k:All2 R ys vs):All2 R (splice xs off ys) (splice us off vs):=by
 unfold Smd.splice
 rw[←k.length]
 exact ((h.take off).append k).append (h.drop _)
theorem zdV {S:Nat→Prop}{hh:Nat→Option Ow}{x:Av}{ys:List Cl}{v:Value}(h:zap x=some ys)(hx:RepA P S β hh w x v):All2 (RepC P S β hh w) ys v.cells.toList:=by
 unfold zap at h
 split at h
 ·next x=>
  cases h
  rw[zjm (RepC.one (show RepC P S β hh w x v from hx))]
  exact .cons hx .nil
 ·next xs=>cases h;obtain ⟨us,rfl,ha⟩:=hx;simpa [Value.cells] using ha
 ·cases h
theorem zgf {S:Nat→Prop}{hh:Nat→Option Ow}{place place':Nat→Option (Nat×Nat)}(hp:∀i q,place i=some q→place' i=some q):∀(parts:List (Nat×Av)) (vals:List (Nat×Value)) (cs r:List Cl) (us:Array Value),
  All2 (fun p q=>p.1=q.1∧RepA P S β hh w p.2 q.2) parts vals→All2 (RepC P S β hh w) cs us.toList→zb0 place cs parts=some r→∃us',Instr.fill place' us vals=some us'∧All2 (RepC P S β hh w) r us'.toList
 | [],_,cs,r,us,.nil,hc,h=>by simp [zb0] at h;subst h;exact ⟨us,rfl,hc⟩
 |(i,x)::parts,_,cs,r,us,.cons (y:=(j,v)) ⟨hij,hx⟩ t,hc,h=>by
  simp only at hij hx;subst hij
  simp only [zb0] at h
  split at h
  ·next off n ys hpl hcl=>
   split at h
   ·next hcond=>
    have hy:=zdV hcl hx
    have hl1:=hy.length
    have hl2:=hc.length
    simp only [Array.length_toList] at hl1 hl2
    have hfold:=zlz off v.cells us (by omega)
    obtain ⟨us',h1,h2⟩:=zgf hp parts _ (splice cs off ys) r (v.cells.zipIdx.foldl (fun cs (p:Value×Nat)=>cs.setIfInBounds (off+p.2) p.1) us) t (by rw[hfold];exact hc.splice hy) h
    refine ⟨us',?_,h2⟩
    unfold Instr.fill
    rw[hp _ _ hpl]
    have h3:v.cells.size=n:=by omega
    have h4:¬(off+n>us.size):=by omega
    simp only [h3,h4,ne_eq,not_true_eq_false,decide_false,Bool.or_false,Bool.false_eq_true,if_false]
    exact h1
   ·cases h
  ·cases h
theorem zfd {S:Nat→Prop}{hh:Nat→Option Ow}{T:TypeId}{cs:List Cl}(h:ZB P T=some cs):∃i z,P.info? T=some i∧i.zero=some z∧All2 (RepC P S β hh w) cs z.cells.toList:=by
 unfold ZB at h
 obtain ⟨z,hz,h⟩:=Option.bind_eq_some_iff.1 h
 obtain ⟨i,hi,hz⟩:=Option.bind_eq_some_iff.1 hz
 split at h
 ·next hall=>
  cases h
  refine ⟨i,z,hi,hz,All2.of (by simp) fun j c v hc hv=>?_⟩
  rw[List.getElem?_map,hv] at hc
  cases hc
  refine RepD.v ?_
  have:=Array.all_eq_true_iff_forall_mem.1 hall v (by rw[←Array.mem_toList_iff];exact List.mem_of_getElem? hv)
  exact this
 ·cases h
theorem zmQ (s:Sim P N w0 S0 β σ a w){T:TypeId}{parts:Array (Nat×Operand)}{r:Av}(h:zaB P σ T parts.toList=some r):
  ∃u,(Instr.build T (parts.map fun (i,x)=>(i,a.eval x))).run P w= .ok u w∧RepA P (Sd w0 S0 β σ.h w) β σ.h w r u:=by
 unfold zaB at h
 split at h
 ·next z hok hz=>
  unfold Go.Program.strOk at hok
  split at hok
  ·next fs hu=>
   have hall:=hok
   obtain ⟨cs,hf,rfl⟩:=Option.map_eq_some_iff.1 h
   obtain ⟨i,zv,hi,hzv,hzr⟩:=zfd (S:=Sd w0 S0 β σ.h w) (β:=β) (hh:=σ.h) (w:=w) hz
   have hpl:∃places,fs.toList.mapM (fun f=>(P.info? f.type).map fun i=>(f.offset,i.size))=some places∧∀j q,zbQ P T j=some q→places.toArray[j]? =some q:=by
    have hall':∀f∈fs.toList,(P.lay f.type).isSome=true:=fun f hf=>Array.all_eq_true_iff_forall_mem.1 hall f (by simpa using hf)
    refine ⟨fs.toList.map fun f=>(f.offset,P.cellsOf f.type),zlA fun f hf=>?_,fun j q hq=>?_⟩
    ·obtain ⟨⟨n,g⟩,hl⟩:=Option.isSome_iff_exists.1 (hall' f hf)
     obtain ⟨i,d,h1,h2,h3,_⟩:=zhA hl
     simp [h1,Go.Program.cellsOf]
    ·unfold zbQ Go.Program.fld at hq
     rw[hu] at hq
     obtain ⟨⟨o,n,g⟩,hq1,rfl⟩:=Option.map_eq_some_iff.1 hq
     obtain ⟨fd,hfd,hq2⟩:=Option.bind_eq_some_iff.1 hq1
     obtain ⟨⟨n',g'⟩,hl,he⟩:=Option.map_eq_some_iff.1 hq2
     cases he
     obtain ⟨i,d,h1,h2,h3,_⟩:=zhA hl
     have hfd':fs.toList[j]? =some fd:=by simpa using hfd
     simp [hfd',hfd,h1,Go.Program.cellsOf,h3]
   obtain ⟨places,hp1,hp2⟩:=hpl
   have hparts:All2 (fun (p:Nat×Av) (q:Nat×Value)=>p.1=q.1∧RepA P (Sd w0 S0 β σ.h w) β σ.h w p.2 q.2) (parts.toList.map fun p=>(p.1,σ.ev p.2)) (parts.toList.map fun p=>(p.1,a.eval p.2)):=
    All2.of (by simp) fun j x y hx hy=>by
     rw[List.getElem?_map] at hx hy
     obtain ⟨p,hp,rfl⟩:=Option.map_eq_some_iff.1 hx
     rw[hp] at hy;cases hy
     exact ⟨rfl,s.ev p.2⟩
   obtain ⟨us',h1,h2⟩:=zgf hp2 _ _ z cs zv.cells hparts hzr hf
   refine ⟨.agg us',run_build w T _ us' ?_,us'.toList,by simp,h2⟩
   unfold Program.built
   simp only [hi,hu,hzv,hp1]
   have e:(fun (x:Nat)=>places.toArray[x]?)=(places.toArray[·]?):=rfl
   have e2:(Array.map (fun x=>match x with|(i,x)=>(i,a.eval x)) parts).toList=parts.toList.map fun p=>(p.1,a.eval p.2):=by simp
   rw[e2];exact h1
  ·cases hok
 ·cases h
def zuQ (P:Program)(S:Nat→Prop)(β:Nat→Value)(hh:Nat→Option Ow)(w:World):Option Av→Option Value→Prop
 |none,none=>True
 |some x,some v=>RepA P S β hh w x v
 |_,_=>False
theorem zp5 {S:Nat→Prop}{hh:Nat→Option Ow}{x:Option Av}{v:Option Value}{n0 l:Int}(hx:zuQ P S β hh w x v)
  (h:zbF n0 x=some l):(x=none∧v=none∧l=n0)∨∃k,v=some (.int k l):=by
 unfold zbF at h
 split at h
 ·cases v with
  |none=>cases h;exact .inl ⟨rfl,rfl,rfl⟩
  |some v=>exact hx.elim
 ·next k n=>
  cases v with
  |none=>exact hx.elim
  |some v=>cases h;exact .inr ⟨k,congrArg some (ZL (S:=S) (β:=β) (hh:=hh) (w:=w) (P:=P) hx).1⟩
 ·cases h
theorem zmR {S:Nat→Prop}{hh:Nat→Option Ow}{T:TypeId}{x r:Av}{v:Value}{lo hi:Option Av}{vl vh:Option Value}(h:zbG P T x lo hi=some r)(hx:RepA P S β hh w x v)
  (hl:zuQ P S β hh w lo vl) (hhi:zuQ P S β hh w hi vh):
  ∃u,(Instr.sliceAt T v vl vh none).run P w= .ok u w∧RepA P S β hh w r u:=by
 unfold zbG at h
 split at h
 ·next E xs=>
  split at h
  ·next l u hlo hup=>
   split at h
   ·next hc=>
    obtain ⟨hE,hI,h0,h1,h2⟩:=hc
    cases h
    obtain ⟨A,c,rfl,hcap,hb,hrows⟩:=RepD.sl_iff.1 (show RepD P w S (.sl E xs) v from hx)
    obtain ⟨i,hi'⟩:=Option.isSome_iff_exists.1 hI
    have hsz:(sizeOf E).run P w= .ok (P.cellsOf E) w:=by simp [sizeOf,typeInfo,hi',Go.Program.cellsOf]
    have hb1:(Instr.sliceBounds true xs.length c vl vh none).run P w= .ok (l.toNat,u.toNat,c) w:=by
     have hu2:u≤(c:Int):=by omega
     have hu0:0≤u:=by omega
     rcases zp5 hl hlo with ⟨_,rfl,rfl⟩|⟨k,rfl⟩<;>rcases zp5 hhi hup with ⟨_,rfl,rfl⟩|⟨k',rfl⟩<;>
      simp [Instr.sliceBounds,Instr.sliceBound,asIntOf,Sem.run_bind,Result.andThen,h0,h1,hu0,hu2,Int.toNat_of_nonneg hu0]
    refine ⟨.slice (if c=l.toNat then A else A.map (·.add (l.toNat*P.cellsOf E))) (u.toNat - l.toNat) (c - l.toNat),?_,?_⟩
    ·unfold Instr.sliceAt
     rw[Sem.run_bind,run_underlying (zbv hE) w]
     simp only [Result.andThen_ok]
     unfold Instr.slice
     rw[Sem.run_bind,run_underlying (zbv hE) w]
     simp only [Result.andThen_ok]
     rw[Sem.run_bind,hb1]
     simp only [Result.andThen_ok]
     rw[Sem.run_bind,hsz]
     simp only [Result.andThen_ok,Sem.run_pure]
    ·have hlen:((xs.take u.toNat).drop l.toNat).length=u.toNat - l.toNat:=by rw[List.length_drop,List.length_take];omega
     refine RepD.sl_iff.2 ⟨_,c - l.toNat,by rw[hlen],by rw[hlen];omega,?_,fun j row hj=>?_⟩
     ·rw[hlen];exact Nat.le_trans (Nat.mul_le_mul_right _ (by omega)) hb
     ·rw[List.getElem?_drop,List.getElem?_take] at hj
      split at hj
      ·next hlt=>
       obtain ⟨q1,q2⟩:=hrows _ row hj
       refine ⟨q1,fun hp=>?_⟩
       obtain ⟨ad,rfl,hrow⟩:=q2 hp
       have hlx:=(List.getElem?_eq_some_iff.1 hj).1
       rw[if_neg (by omega)]
       refine ⟨_,rfl,?_⟩
       rw[zeR]
       rwa[←Nat.add_mul]
      ·cases hj
   ·cases h
  ·cases h
 ·cases h
theorem zdW {ad:Addr}{op:BinOp}{T e:TypeId}(ox oy:Operand)(hu:P.underlying T=some (.pointer e)):
  ((do eqGuard .eql T ox oy (.pointer (some ad)) (.pointer none);binOp .eql T (.pointer (some ad)) (.pointer none)):Sem Value).run P w= .ok (.bool false) w∧
  ((do eqGuard .neq T ox oy (.pointer (some ad)) (.pointer none);binOp .neq T (.pointer (some ad)) (.pointer none)):Sem Value).run P w= .ok (.bool true) w:=by
 have h1:(Op.equal T (.pointer (some ad)) (.pointer none)).run P w= .ok false w:=by
  show (Op.equalIn (9999+1) T (.pointer (some ad)) (.pointer none)).run P w=_
  unfold Op.equalIn
  rw[Sem.run_bind,run_underlying hu w]
  rfl
 constructor
 ·simp [eqGuard,binOp,Sem.run_bind,h1,Result.andThen]
 ·simp [eqGuard,binOp,Sem.run_bind,h1,Result.andThen]
theorem zmS {r:Nat}{op:BinOp}{T:TypeId}{x:Av}(ox oy:Operand)(h:zdS op (P.isMap T)=some x){S:Nat→Prop}{hh:Nat→Option Ow}:
  ∃z,((do eqGuard op T ox oy (.map (some r)) (.map none);binOp op T (.map (some r)) (.map none)):Sem Value).run P w= .ok z w∧RepA P S β hh w x z:=by
 have h1:P.isMap T=true→(Op.equal T (.map (some r)) (.map none)).run P w= .ok false w:=fun hm=>by
  obtain ⟨k,e,hu⟩:∃k e,P.underlying T=some (.map k e):=by
   unfold Go.Program.isMap at hm
   split at hm
   ·next k e hu=>exact ⟨k,e,hu⟩
   ·cases hm
  show (Op.equalIn (9999+1) T (.map (some r)) (.map none)).run P w=_
  unfold Op.equalIn
  rw[Sem.run_bind,run_underlying hu w]
  rfl
 unfold zdS at h
 split at h
 ·next hm=>cases h;exact ⟨.bool false,by simp [eqGuard,binOp,Sem.run_bind,h1 hm,Result.andThen],ZU rfl⟩
 ·next hm=>cases h;exact ⟨.bool true,by simp [eqGuard,binOp,Sem.run_bind,h1 hm,Result.andThen],ZU rfl⟩
 ·cases h
theorem zoL {ad:Addr}{n c:Nat}{op:BinOp}{T:TypeId}{x:Av}(ox oy:Operand)(h:zdS op (P.isSl T)=some x){S:Nat→Prop}{hh:Nat→Option Ow}:
  ∃z,((do eqGuard op T ox oy (.slice (some ad) n c) (.slice none 0 0);binOp op T (.slice (some ad) n c) (.slice none 0 0)):Sem Value).run P w= .ok z w∧RepA P S β hh w x z:=by
 have h1:P.isSl T=true→(Op.equal T (.slice (some ad) n c) (.slice none 0 0)).run P w= .ok false w:=fun hm=>by
  obtain ⟨e,hu⟩:∃e,P.underlying T=some (.slice e):=by
   unfold Go.Program.isSl at hm
   split at hm
   ·next e hu=>exact ⟨e,hu⟩
   ·cases hm
  show (Op.equalIn (9999+1) T (.slice (some ad) n c) (.slice none 0 0)).run P w=_
  unfold Op.equalIn
  rw[Sem.run_bind,run_underlying hu w]
  rfl
 unfold zdS at h
 split at h
 ·next hm=>cases h;exact ⟨.bool false,by simp [eqGuard,binOp,Sem.run_bind,h1 hm,Result.andThen],ZU rfl⟩
 ·next hm=>cases h;exact ⟨.bool true,by simp [eqGuard,binOp,Sem.run_bind,h1 hm,Result.andThen],ZU rfl⟩
 ·cases h
theorem zhD {u:Value}{op:BinOp}{T:TypeId}{r:Av}(ox oy:Operand)(h:zbo P op T=some r)(hu:∃U x,u= .iface U x){S:Nat→Prop}{hh:Nat→Option Ow}:
  ∃z,((do eqGuard op T ox oy u .nilIface;binOp op T u .nilIface):Sem Value).run P w= .ok z w∧RepA P S β hh w r z:=by
 obtain ⟨U,x,rfl⟩:=hu
 unfold zbo at h
 have h1:∀m,P.underlying T=some (.interface m)→(Op.equal T (.iface U x) .nilIface).run P w= .ok false w:=fun m hm=>by
  show (Op.equalIn (9999+1) T (.iface U x) .nilIface).run P w=_
  unfold Op.equalIn
  rw[Sem.run_bind,run_underlying hm w]
  rfl
 have h2:ZO P T=some true→∃m,P.underlying T=some (.interface m):=fun hi=>by
  unfold ZO at hi
  split at hi
  ·next m hm=>exact ⟨m,hm⟩
  ·cases hi
  ·cases hi
 split at h
 ·next hi=>obtain ⟨m,hm⟩:=h2 hi;cases h;exact ⟨.bool false,by simp [eqGuard,binOp,Sem.run_bind,h1 m hm,Result.andThen],ZU rfl⟩
 ·next hi=>obtain ⟨m,hm⟩:=h2 hi;cases h;exact ⟨.bool true,by simp [eqGuard,binOp,Sem.run_bind,h1 m hm,Result.andThen],ZU rfl⟩
 ·cases h
theorem zoM {S:Nat→Prop}{hh:Nat→Option Ow}{x:Av}{v:Value}(h:zcZ x=true)(hx:RepA P S β hh w x v):∃U y,v= .iface U y:=by
 unfold zcZ at h
 split at h
 ·obtain ⟨_,_,_,_,_,rfl⟩:=hx;exact ⟨_,_,rfl⟩
 ·next T y=>cases (show RepD P w S (.ifc T y) v from hx) with|ifc h=>exact ⟨_,_,rfl⟩
 ·next T y=>cases (show RepD P w S (.ifa T y) v from hx) with|ifa hl h=>exact ⟨_,_,rfl⟩
 ·cases h
theorem zju {u:Value}{op:BinOp}{T:TypeId}{r:Av}{b:Bool}(ox oy:Operand)(h:zbZ P op T oy b=some r)(hu:(b=true∧u= .nilIface)∨(b=false∧∃U x,u= .iface U x)){S:Nat→Prop}{hh:Nat→Option Ow}:
  ∃z,((do eqGuard op T ox oy u .nilIface;binOp op T u .nilIface):Sem Value).run P w= .ok z w∧RepA P S β hh w r z:=by
 rcases hu with ⟨rfl,rfl⟩|⟨rfl,hu⟩
 ·unfold zbZ at h
  have h1:∀m,P.underlying T=some (.interface m)→(Op.equal T .nilIface .nilIface).run P w= .ok true w:=fun m hm=>by
   show (Op.equalIn (9999+1) T .nilIface .nilIface).run P w=_
   unfold Op.equalIn
   rw[Sem.run_bind,run_underlying hm w]
   rfl
  have h2:ZO P T=some true→∃m,P.underlying T=some (.interface m):=fun hi=>by
   unfold ZO at hi
   split at hi
   ·next m hm=>exact ⟨m,hm⟩
   ·cases hi
   ·cases hi
  have h3:zaS oy=true→∃v,oy= .const v:=fun hc=>by unfold zaS at hc;split at hc<;>first|exact ⟨_,rfl⟩|cases hc
  split at h
  ·next hi hc=>obtain ⟨m,hm⟩:=h2 hi;obtain ⟨v,rfl⟩:=h3 hc;cases h;exact ⟨.bool true,by simp [eqGuard,binOp,Sem.run_bind,h1 m hm,Result.andThen],ZU rfl⟩
  ·next hi hc=>obtain ⟨m,hm⟩:=h2 hi;obtain ⟨v,rfl⟩:=h3 hc;cases h;exact ⟨.bool false,by simp [eqGuard,binOp,Sem.run_bind,h1 m hm,Result.andThen],ZU rfl⟩
  ·cases h
 ·refine zhD ox oy ?_ hu
  unfold zbZ at h
  unfold zbo
  split at h
  ·next hi hc=>simp only [hi];exact h
  ·next hi hc=>simp only [hi];exact h
  ·cases h
theorem zp6 {S:Nat→Prop}{hh:Nat→Option Ow}{op:BinOp}{T:TypeId}{ox oy:Operand}{x y r:Av}{u v:Value}(h:ZH P op T ox oy x y=some r)(hx:RepA P S β hh w x u)(hy:RepA P S β hh w y v):
  ∃z,((do eqGuard op T ox oy u v;binOp op T u v):Sem Value).run P w= .ok z w∧RepA P S β hh w r z:=by
 unfold ZH at h
 split at h
 ·obtain ⟨rfl,_⟩:=ZL hx;obtain ⟨rfl,_⟩:=ZL hy
  exact zju ox oy h (.inl ⟨rfl,rfl⟩)
 ·next t=>
  obtain ⟨rfl,_⟩:=ZL hy
  refine zju ox oy h ?_
  cases (show RepD P w S (.tr t) u from hx) with
  |tr ht=>cases ht<;>first|exact .inl ⟨rfl,rfl⟩|exact .inr ⟨rfl,_,_,rfl⟩
 ·obtain ⟨rfl,_⟩:=ZL hx;obtain ⟨rfl,_⟩:=ZL hy
  exact zet h w
 ·obtain ⟨rfl,_⟩:=ZL hy
  obtain ⟨xs,T',b,_,_,rfl⟩:=hx
  split at h
  ·next hu=>cases h;exact ⟨_,(zdW (op:=.eql) ox oy hu).1,ZU rfl⟩
  ·next hu=>cases h;exact ⟨_,(zdW (op:=.eql) ox oy hu).2,ZU rfl⟩
  ·cases h
 ·obtain ⟨rfl,_⟩:=ZL hy
  obtain ⟨ad,rfl,_⟩:=RepD.pt_iff.1 (show RepD P w S (.pt _) u from hx)
  split at h
  ·next hu=>cases h;exact ⟨_,(zdW (op:=.eql) ox oy hu).1,ZU rfl⟩
  ·next hu=>cases h;exact ⟨_,(zdW (op:=.eql) ox oy hu).2,ZU rfl⟩
  ·cases h
 ·next m=>
  obtain ⟨rfl,_⟩:=ZL hy
  cases (show RepD P w S (.mp m) u from hx) with
  |mp hm=>cases hm with|map hS hr hlen hk hs hb hbc hv=>exact zmS ox oy h
 ·next E r rs=>
  obtain ⟨rfl,_⟩:=ZL hy
  split at h
  ·next h0=>
   obtain ⟨A,c,rfl,_,_,hrow⟩:=RepD.sl_iff.1 (show RepD P w S (.sl E (r::rs)) u from hx)
   obtain ⟨ad,rfl,_⟩:=(hrow 0 r rfl).2 h0
   exact zoL ox oy h
  ·cases h
 ·obtain ⟨rfl,_⟩:=ZL hy
  split at h
  ·next hi=>exact zhD ox oy h (zoM hi hx)
  ·cases h
 ·cases h
theorem zmT {S:Nat→Prop}{hh:Nat→Option Ow}{T ty:TypeId}{x r:Av}{v:Value}(h:zbE P T x=some r)(hx:RepA P S β hh w x v):
  ∃u,(Builtin.len_ #[T] ty #[v]).run P w= .ok u w∧RepA P S β hh w r u:=by
 unfold zbE at h
 split at h
 ·next m=>
  split at h
  case isFalse=>cases h
  next hmap=>
  cases h
  obtain ⟨k,e,hu⟩:∃k e,P.underlying T=some (.map k e):=by
   unfold Go.Program.isMap at hmap
   split at hmap
   ·next k e hu=>exact ⟨k,e,hu⟩
   ·cases hmap
  cases (show RepD P w S (.mp m) v from hx) with
  |mp hm=>
   cases hm with
   | @map _ _ r es clock hS hr hlen hk hs hb hbc hv=>
    have hl:es.length=m.length:=by simpa using congrArg List.length hk
    exact ⟨.int .i64 m.length,by have:=zlx hu ty hr;simpa [hl] using this,ZU (by simp [z7,Z7];omega)⟩
 ·cases h
theorem zoN {S:Nat→Prop}{hh:Nat→Option Ow}{T:TypeId}{x k r:Av}{v u:Value}{ok:Bool}(h:zcJ P T x k ok=some r)(hx:RepA P S β hh w x v)(hk:RepA P S β hh w k u):
  ∃z,(Instr.lookup T v u ok).run P w= .ok z w∧RepA P S β hh w r z:=by
 unfold zcJ at h
 split at h
 ·next m s=>
  obtain ⟨rfl,hok⟩:=ZL hk
  split at h
  ·next hc=>
   cases h
   cases (show RepD P w S (.mp m) v from hx) with
   |mp hm=>
    obtain ⟨y,hy,hrun⟩:=ziV hc.1 hm hc.2 (by simpa [z7] using hok) ok
    refine ⟨_,hrun,?_⟩
    cases ok with
    |true=>exact ⟨[y,.bool _],rfl,.cons (show (if (false:Bool) then _ else _) from by rw[if_neg (by decide)];exact ⟨_,rfl,.tr hy⟩) (.cons (show (if (false:Bool) then _ else _) from by rw[if_neg (by decide)];exact ⟨_,rfl,.v rfl⟩) .nil)⟩
    |false=>exact RepD.tr hy
  ·cases h
 ·cases h
theorem zlB {T:TypeId}{b:Bool}(h:ZO P T=some b):∃d,P.underlying T=some d∧(match d with| .interface _=>true|_=>false)=b:=by
 unfold ZO at h
 split at h
 ·next m hu=>cases h;exact ⟨_,hu,rfl⟩
 ·next d hne hu=>cases h;refine ⟨d,hu,?_⟩;cases d<;>first|rfl|exact (hne _ rfl).elim
 ·cases h
theorem zhE {S:Nat→Prop}{hh:Nat→Option Ow}{g:Bool}{cs:List Cl}{v:Value}{b:Bool}(h:RepP P S β hh w (g,cs) v):RepA P S β hh w (.tup [(g,cs),(false,[.d (.v (.bool b))])]) (.tuple #[v,.bool b]):=
 ⟨[v,.bool b],rfl,.cons h (.cons (show (if (false:Bool) then _ else _) from by rw[if_neg (by decide)];exact ⟨_,rfl,.v rfl⟩) .nil)⟩
theorem zcn {S:Nat→Prop}{hh:Nat→Option Ow}{c:Cl}{v:Value}(h:RepC P S β hh w c v):RepP P S β hh w (false,[c]) v:=(show (if (false:Bool) then _ else _) from by rw[if_neg (by decide)];exact ⟨_,rfl,h⟩)
theorem znZ {S:Nat→Prop}{hh:Nat→Option Ow}{cs:List Cl}{us:List Value}(h:All2 (RepC P S β hh w) cs us):RepP P S β hh w (true,cs) (.agg us.toArray):=(show (if (true:Bool) then _ else _) from by rw[if_pos rfl];exact ⟨_,rfl,h⟩)
theorem zgL {S:Nat→Prop}{hh:Nat→Option Ow}{U:TypeId}{r:Av}(h:zu P U=some r):∃z,(zeroValue U).run P w= .ok z w∧RepA P S β hh w r (.tuple #[z,.bool false]):=by
 unfold zu at h
 split at h
 ·next cs hz=>
  obtain ⟨i,hi,hz⟩:=Option.bind_eq_some_iff.1 hz
  split at h
  ·next hall=>
   cases h
   refine ⟨.agg cs,by simp [zeroValue,typeInfo,hi,hz],?_⟩
   have:=znZ (P:=P) (S:=S) (β:=β) (hh:=hh) (w:=w) (cs:=cs.toList.map fun v=>.d (.v v)) (us:=cs.toList) (All2.of (by simp) fun j c v hc hv=>by
    rw[List.getElem?_map,hv] at hc
    cases hc
    exact RepD.v (Array.all_eq_true_iff_forall_mem.1 hall v (by rw[←Array.mem_toList_iff];exact List.mem_of_getElem? hv)))
   rw[Array.toArray_toList] at this
   exact zhE this
  ·cases h
 ·next v hne hz=>
  obtain ⟨i,hi,hz⟩:=Option.bind_eq_some_iff.1 hz
  split at h
  ·next hok=>cases h;exact ⟨v,by simp [zeroValue,typeInfo,hi,hz],zhE (zcn (RepD.v hok))⟩
  ·cases h
 ·cases h
theorem zeT {S:Nat→Prop}{hh:Nat→Option Ow}{ok g:Bool}{cs:List Cl}{r:Av}{v:Value}(h:zb9 ok g cs=some r)(hv:RepP P S β hh w (g,cs) v):RepA P S β hh w r (if ok then .tuple #[v,.bool true] else v):=by
 unfold zb9 at h
 split at h
 ·next hok=>cases h;rw[if_pos hok];exact zhE hv
 ·next hok=>
  rw[if_neg hok]
  split at h
  ·next hg=>
   cases h
   obtain ⟨us,rfl,ha⟩:=(show (∃us',v=Value.agg (List.toArray us')∧All2 (RepC P S β hh w) cs us') by simpa [RepP,hg] using hv)
   exact ⟨us,rfl,ha⟩
  ·next hg=>
   split at h
   ·next c=>
    cases h
    obtain ⟨x,hx,hr⟩:=(show (∃x,[c]= [x]∧RepC P S β hh w x v) by simpa [RepP,hg] using hv)
    cases hx;exact hr
   ·cases h
theorem zgM {S:Nat→Prop}{hh:Nat→Option Ow}{U xT:TypeId}{ok:Bool}{d:D}{r:Av}{v:Value}(h:zaG P U ok d=some r)(hx:RepD P w S d v):
  ∃u,(Instr.typeAssert v xT U ok).run P w= .ok u w∧RepA P S β hh w r u:=by
 unfold zaG at h
 split at h
 ·next hi=>
  obtain ⟨de,hu,hd⟩:=zlB hi
  have other:∀{T:TypeId} {x:Value},T≠U→ok=true→zu P U=some r→∃u,(Instr.typeAssert (.iface T x) xT U ok).run P w= .ok u w∧RepA P S β hh w r u:=fun {T x} hne hok hz=>by
   obtain ⟨z,hz1,hz2⟩:=zgL (S:=S) (β:=β) (hh:=hh) (w:=w) hz
   refine ⟨_,?_,hz2⟩
   subst hok
   unfold Instr.typeAssert
   simp only [Sem.run_bind,run_underlying hu,Result.andThen_ok]
   cases de<;>simp_all
  have same:∀{x:Value},(Instr.typeAssert (.iface U x) xT U ok).run P w= .ok (if ok then .tuple #[x,.bool true] else x) w:=fun {x}=>by
   unfold Instr.typeAssert
   simp only [Sem.run_bind,run_underlying hu,Result.andThen_ok]
   cases de<;>cases ok<;>simp_all
  split at h
  ·next T x=>
   cases hx with
   |ifc hx=>
    split at h
    ·next e=>subst e;exact ⟨_,same,zeT h (zcn hx)⟩
    ·next e=>
     split at h
     ·next hok=>exact other e hok h
     ·cases h
  ·next T xs=>
   cases hx with
   | @ifa _ _ us hl hx=>
    split at h
    ·next e=>subst e;exact ⟨_,same,zeT h (znZ (All2.of (by simp [hl]) fun i c u hc hu=>by
      rw[List.getElem?_map] at hc
      obtain ⟨y,hy,rfl⟩:=Option.map_eq_some_iff.1 hc
      exact hx i y u hy hu))⟩
    ·next e=>
     split at h
     ·next hok=>exact other e hok h
     ·cases h
  ·cases hx
   split at h
   ·next hok=>
    obtain ⟨z,hz1,hz2⟩:=zgL (S:=S) (β:=β) (hh:=hh) (w:=w) h
    refine ⟨_,?_,hz2⟩
    subst hok
    unfold Instr.typeAssert
    simp only [Sem.run_bind,run_underlying hu,Result.andThen_ok]
    cases de<;>simp_all
   ·cases h
  ·cases h
 ·next hi=>
  have ful:∀{T:TypeId} {x:Value},P.fulfils U T=true→(Instr.typeAssert (.iface T x) xT U ok).run P w= .ok (if ok then .tuple #[.iface T x,.bool true] else .iface T x) w:=fun {T x} hf=>by
   unfold Go.Program.fulfils at hf
   split at hf
   ·next want i hu hi2=>
    unfold Instr.typeAssert
    have hm:Instr.missingMethod want i.methods=none:=by simpa using hf
    simp only [Sem.run_bind,run_underlying hu,Result.andThen_ok]
    cases ok<;>simp [typeInfo,hi2,hm]
   ·cases hf
  split at h
  ·next T x=>
   split at h
   ·next hf=>
    have hx':=hx
    cases hx with
    |ifc hx=>exact ⟨_,ful hf,zeT h (zcn hx')⟩
   ·cases h
  ·next T xs=>
   split at h
   ·next hf=>
    have hx':=hx
    cases hx with
    |ifa hl hx=>exact ⟨_,ful hf,zeT h (zcn hx')⟩
   ·cases h
  ·cases h
 ·cases h
theorem zlC {S:Nat→Prop}{hh:Nat→Option Ow}{U xT:TypeId}{ok:Bool}{x r:Av}{v:Value}(h:zaH P U ok x=some r)(hx:RepA P S β hh w x v):
  ∃u,(Instr.typeAssert v xT U ok).run P w= .ok u w∧RepA P S β hh w r u:=by
 unfold zaH at h
 split at h
 ·next t=>
  split at h
  ·next hok=>
   simp only [zmN,Bool.and_eq_true,beq_iff_eq] at hok
   exact zgM h (zsI hok.1 hok.2 hx)
  ·cases h
 ·exact zgM h hx
 ·cases h
theorem zlD {S:Nat→Prop}{hh:Nat→Option Ow}:∀{xs:List Av} {ns:List Int} {us:List Value},zcK xs=some ns→All2 (RepA P S β hh w) xs us→us=ns.map (Value.int .i64)∧∀n∈ns,Z7 .i64 n=true
 | [],ns,us,h,k=>by cases h;cases k;exact ⟨rfl,by simp⟩
 |x::l,ns,us,h,k=>by
  obtain ⟨u,us',rfl,h1,h2⟩:=k.inv
  unfold zcK at h
  split at h
  ·rename_i h0;cases h0
  ·next a l' h0=>
   cases h0
   obtain ⟨ns',hn,rfl⟩:=Option.map_eq_some_iff.1 h
   obtain ⟨rfl,h3⟩:=zlD hn h2
   obtain ⟨rfl,h4⟩:=ZL h1
   exact ⟨rfl,fun n hn=>by rcases List.mem_cons.1 hn with rfl|hn<;>simp_all [z7]⟩
  ·cases h
theorem zp7 {S:Nat→Prop}{hh:Nat→Option Ow}{xs:List Av}{us:List Value}{r:Av}(h:ze3 xs=some r)(k:All2 (RepA P S β hh w) xs us):∃u,(∀tys ty,(Builtin.min_ tys ty us.toArray).run P w= .ok u w)∧RepA P S β hh w r u:=by
 unfold ze3 at h
 split at h
 ·next a l hi=>
  cases h
  obtain ⟨rfl,hok⟩:=zlD hi k
  refine ⟨.int .i64 (l.foldl min a),fun tys ty=>?_,ZU ?_⟩
  ·unfold Builtin.min_
   simp only [List.map_cons,List.toList_toArray]
   have:∀(l:List Int) (a:Int),((l.map (Value.int .i64)).foldlM Builtin.min2 (Value.int .i64 a)).run P w= .ok (.int .i64 (l.foldl min a)) w:=by
    intro l
    induction l with
    |nil=>intro a;rfl
    |cons b l ih=>
     intro a
     simp only [List.map_cons,List.foldlM_cons,Builtin.min2,Sem.run_bind,Sem.run_pure,Result.andThen_ok,List.foldl_cons]
     have e:(if b<a then b else a)=min a b:=by simp only [Int.min_def];split<;>split<;>omega
     rw[e,ih]
   exact this l a
  ·have:∀(l:List Int) (a:Int),(∀n∈a::l,Z7 .i64 n=true)→Z7 .i64 (l.foldl min a)=true:=by
    intro l
    induction l with
    |nil=>intro a h;exact h a (by simp)
    |cons b l ih=>
     intro a h
     refine ih _ fun n hn=>?_
     rcases List.mem_cons.1 hn with rfl|hn
     ·have h1:=h a (by simp);have h2:=h b (by simp)
      simp only [Int.min_def];split<;>assumption
     ·exact h n (by simp [hn])
   exact this l a hok
 ·cases h
theorem zhF (s:Sim P N w0 S0 β σ a w){o:Oper}{r:Av}(h:zJ P σ o=some r):∃u,(execOp a.eval o).run P w= .ok (.value u) w∧RepA P (Sd w0 S0 β σ.h w) β σ.h w r u:=by
 have lift:∀{m:Sem Value},(∃u,m.run P w= .ok u w∧RepA P (Sd w0 S0 β σ.h w) β σ.h w r u)→∃u,(do pure (Next.value (←m)):Sem Next).run P w= .ok (.value u) w∧RepA P (Sd w0 S0 β σ.h w) β σ.h w r u:=by
  rintro m ⟨u,h1,h2⟩
  exact ⟨u,by simp [Sem.run_bind,h1],h2⟩
 unfold zJ at h
 unfold execOp
 split at h
 ·next x ho=>rw[ho];cases h;exact ⟨_,rfl,s.ev x⟩
 ·next x ho=>rw[ho];cases h;exact ⟨_,rfl,s.ev x⟩
 ·next c x y ho=>
  rw[ho]
  split at h
  ·next t ht=>
   cases h
   have hc:=s.ev c
   rw[ht] at hc
   obtain ⟨hc,_⟩:=ZL hc
   simp only [hc,asBool,Sem.run_bind,Sem.run_pure,Result.andThen_ok]
   cases t
   ·exact ⟨_,rfl,s.ev y⟩
   ·exact ⟨_,rfl,s.ev x⟩
  ·cases h
 ·next op T x ho=>
  rw[ho]
  split at h
  ·next v hv=>
   have hx:=s.ev x
   rw[hv] at hx
   obtain ⟨hx,_⟩:=ZL hx
   simp only [hx]
   exact lift (zet h w)
  ·cases h
 ·next op T x y ty ho=>rw[ho];exact lift (zp6 h (s.ev x) (s.ev y))
 ·next sT dT x ho=>
  rw[ho]
  split at h
  ·next v hv=>
   have hx:=s.ev x
   rw[hv] at hx
   obtain ⟨hx,_⟩:=ZL hx
   simp only [hx]
   exact lift (zet h w)
  ·cases h
 ·next T x f ho=>
  rw[ho]
  split at h
  ·next off n g xs hf hx=>
   have hv:=s.ev x
   rw[hx] at hv
   obtain ⟨us,he,ha⟩:=hv
   simp only [he]
   unfold Go.Program.fld at hf
   split at hf
   ·next fs hu=>
    obtain ⟨fd,hfd,hm⟩:=Option.bind_eq_some_iff.1 hf
    obtain ⟨⟨n',g'⟩,hl,heq⟩:=Option.map_eq_some_iff.1 hm
    cases heq
    obtain ⟨h1,h2⟩:=zcc hl w
    obtain ⟨q1,q2⟩:=zge h ha
    refine lift ?_
    cases g' with
    |true=>
     refine ⟨_,?_,q1 rfl⟩
     simp [Instr.field,Sem.run_bind,run_underlying hu,hfd,asAgg,part,h1,h2,zmP]
    |false=>
     obtain ⟨u,hu',hr⟩:=q2 rfl
     refine ⟨u,?_,hr⟩
     simp [Instr.field,Sem.run_bind,run_underlying hu,hfd,asAgg,part,h1,hu']
   ·cases hf
  ·cases h
 ·next T x f ho=>rw[ho];exact lift (zhB h (s.ev x))
 ·next T x ho=>rw[ho];exact lift (zeS s h (s.ev x))
 ·next T x i ho=>rw[ho];exact lift (zhC s h (s.ev x) (s.ev i))
 ·next T x i ho=>rw[ho];exact lift (zmO h (s.ev x) (s.ev i))
 ·next x i ho=>rw[ho];exact lift (zkA h (s.ev x))
 ·next x ho=>
  rw[ho]
  have hx:=s.ev x
  split at h
  ·next id off hv=>
   cases h
   rw[hv] at hx
   have hx':=hx
   obtain ⟨xs,T',b,_,_,he⟩:=hx
   rw[he] at hx'
   simp only [he]
   exact ⟨_,rfl,hx'⟩
  ·next xs hv=>
   cases h
   rw[hv] at hx
   obtain ⟨ad,he,_⟩:=RepD.pt_iff.1 (show RepD P w _ (.pt xs) (a.eval x) from hx)
   rw[he] at hx
   simp only [he]
   exact ⟨_,rfl,hx⟩
  ·next T id off hv=>
   cases h
   rw[hv] at hx
   have hx':=hx
   obtain ⟨xs,T',b,_,_,he⟩:=hx
   rw[he] at hx'
   simp only [he]
   exact ⟨_,rfl,hx'⟩
  ·next T y hv=>
   cases h
   rw[hv] at hx
   have hx':=hx
   obtain ⟨_,he⟩:∃u,a.eval x= .iface T u:=by
    revert hx
    generalize a.eval x=v
    intro hx
    cases (show RepD P w (Sd w0 S0 β σ.h w) (.ifc T y) v from hx) with|ifc h=>exact ⟨_,rfl⟩
   rw[he] at hx'
   simp only [he]
   exact ⟨_,rfl,hx'⟩
  ·cases h
 ·next x xT U ok ho=>rw[ho];exact lift (zlC h (s.ev x))
 ·next fn first caps ho=>
  rw[ho]
  unfold Zx at h
  split at h
  ·split at h
   ·next hc=>
    cases h
    have e1:first= #[]:=by simpa using hc.1
    have e2:caps= #[]:=by simpa using hc.2
    subst e1;subst e2
    exact lift ⟨_,by rw[Array.map_empty];rfl,ZU rfl⟩
   ·cases h
  ·cases h
 ·next T x k ok ho=>rw[ho];exact lift (zoN h (s.ev x) (s.ev k))
 ·next T x ho=>rw[ho];exact lift (zkz h (s.ev x))
 ·next T parts ho=>rw[ho];exact lift (zmQ s h)
 ·next T x lo hi ho=>
  rw[ho]
  refine lift (zmR h (s.ev x) ?_ ?_)
  ·cases lo with
   |none=>trivial
   |some y=>exact s.ev y
  ·cases hi with
   |none=>trivial
   |some y=>exact s.ev y
 ·next c ho=>
  rw[ho]
  obtain ⟨callee,args,argTypes⟩:=c
  unfold Zw at h
  simp only at h
  split at h
  ·obtain ⟨u,h1,h2⟩:=zp7 h (All2.of (by simp) fun i x v hx hv=>by
    rw[List.getElem?_map] at hx hv
    obtain ⟨p,hp,rfl⟩:=Option.map_eq_some_iff.1 hx
    rw[hp] at hv;cases hv
    exact s.ev p:All2 (RepA P (Sd w0 S0 β σ.h w) β σ.h w) (args.toList.map σ.ev) (args.toList.map a.eval))
   refine ⟨u,?_,h2⟩
   have h1':(Builtin.min_ argTypes o.type (args.map a.eval)).run P w= .ok u w:=by
    have e:args.map a.eval=(args.toList.map a.eval).toArray:=by rw[←Array.toList_inj];simp
    rw[e];exact h1 _ _
   simp [resolve,invoke,builtin,Sem.run_bind,h1']
  ·split at h
   ·next x T hargs htys=>
    have e1:args= #[x]:=by rw[←Array.toList_inj];exact hargs
    have e2:argTypes= #[T]:=by rw[←Array.toList_inj];exact htys
    subst e1;subst e2
    obtain ⟨u,h1,h2⟩:∃u,(Builtin.len_ #[T] o.type #[a.eval x]).run P w= .ok u w∧RepA P (Sd w0 S0 β σ.h w) β σ.h w r u:=by
     split at h
     ·next r' hr=>cases h;exact zmT hr (s.ev x)
     ·exact zp4 (ty:=o.type) s h (s.ev x)
    refine ⟨u,?_,h2⟩
    simp [resolve,invoke,builtin,Sem.run_bind,h1]
   ·cases h
  ·cases h
 ·cases h
end
end Go.Smd
end
