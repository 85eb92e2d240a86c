/- Part 10. -/
import Derived.Test.YtdgnolbdcmgfoaaGreatQD08
import Derived.Test.YtdgnolbdcmgfoaaGreatQD09
set_option linter.unusedVariables false
set_option linter.unusedSimpArgs false
set_option maxRecDepth 100000
set_option maxHeartbeats 8000000
section
namespace Go.Smd
open Go.RowKit
def Eqv (σ τ:St):Prop:=(∀t,σ.tmp t=τ.tmp t)∧σ.h=τ.h
def zhV (K:St→Prop):Prop:=∀σ τ,Eqv σ τ→K σ→K τ
theorem Eqv.refl (σ:St):Eqv σ σ:=⟨fun _=>rfl,rfl⟩
theorem Eqv.symm {σ τ:St}(h:Eqv σ τ):Eqv τ σ:=⟨fun t=>(h.1 t).symm,h.2.symm⟩
theorem Eqv.trans {σ τ υ:St}(h:Eqv σ τ)(k:Eqv τ υ):Eqv σ υ:=⟨fun t=>(h.1 t).trans (k.1 t),h.2.trans k.2⟩
theorem Eqv.ev {σ τ:St}(h:Eqv σ τ):σ.ev=τ.ev:=by
 funext x
 cases x with
 |tmp t=>exact h.1 t
 |_=>rfl
theorem Zl (σ:St)(d:Option Tmp)(x:Av)(t:Nat):(σ.put d x).tmp t=if d=some t then x else σ.tmp t:=by
 cases d with
 |none=>simp [St.put]
 |some d=>by_cases e:d=t<;>simp [St.put,St.tmp,zd,e]
theorem ZG (σ:St)(d:Option Tmp)(x:Av):(σ.put d x).h=σ.h:=by cases d<;>rfl
theorem Eqv.put {σ τ:St}(h:Eqv σ τ)(d:Option Tmp)(x:Av):Eqv (σ.put d x) (τ.put d x):=⟨fun t=>by rw[Zl,Zl,h.1 t],by rw[ZG,ZG,h.2]⟩
theorem Eqv.new {σ τ:St}(h:Eqv σ τ)(id:Nat)(o:Ow):Eqv (σ.new id o) (τ.new id o):=⟨h.1,by rw[zt,zt,h.2]⟩
theorem Eqv.frz {P:Program}{σ τ:St}(h:Eqv σ τ)(F:List Nat):Eqv (σ.frz P F) (τ.frz P F):=⟨fun t=>by rw[zkD,zkD,h.1 t,h.2],by funext i;rw[zlE,zlE,h.2]⟩
theorem Eqv.give {P:Program}{σ τ:St}(h:Eqv σ τ)(F:List Nat):Eqv (σ.give P F) (τ.give P F):=by
 unfold St.give;split
 ·exact h
 ·exact h.frz _
theorem Eqv.swap (σ:St){d e:Option Tmp}(x y:Av)(h:∀t,d=some t→e≠some t):Eqv ((σ.put d x).put e y) ((σ.put e y).put d x):=by
 refine ⟨fun t=>?_,by rw[ZG,ZG,ZG,ZG]⟩
 rw[Zl,Zl,Zl,Zl]
 by_cases h1:d=some t
 ·simp only [if_pos h1,if_neg (h t h1)]
 ·simp only [if_neg h1]
section
variable {P:Program} {N:Nat} {ops:Array Oper}
theorem zaC {σ τ:St}{o:Oper}(he:∀x∈o.op.operands,σ.ev x=τ.ev x)(hh:σ.h=τ.h):zJ P σ o=zJ P τ o:=by
 obtain ⟨dst,op,type,pos,after,guard⟩:=o
 cases op<;>simp only [Op.operands] at he<;>simp only [zJ]
 case build t ps=>
  have:∀x∈ps.toList,σ.ev x.2=τ.ev x.2:=fun x hx=>he _ (by simp;exact ⟨x.1,by simpa using hx⟩)
  unfold zaB
  rw[List.map_congr_left (g:=fun p=>(p.1,τ.ev p.2)) fun p hp=>by rw[this p hp]]
 case call c=>
  unfold Zw
  rw[hh]
  have hx:∀x∈c.args.toList,σ.ev x=τ.ev x:=fun x hx=>he x (by simp only [Call.operands];simp [Array.mem_toList_iff.1 hx])
  split
  ·rw[List.map_congr_left hx]
  ·split
   ·next x T h1 hT=>rw[hx x (by rw[h1];simp)]
   ·rfl
  ·rfl
 case slice t x lo hi mx=>
  cases lo<;>cases hi<;>cases mx<;>simp_all
 all_goals (first|rfl|(simp_all;done))
theorem zb3 {σ τ:St}{o:Oper}(he:∀x∈o.op.operands,σ.ev x=τ.ev x)(hh:σ.h=τ.h):zy P σ o=zy P τ o:=by
 obtain ⟨dst,op,type,pos,after,guard⟩:=o
 cases op<;>simp only [Op.operands] at he<;>simp only [zy]
 case call c=>
  obtain ⟨callee,args,tys⟩:=c
  have hm:args.toList.map σ.ev=args.toList.map τ.ev:=List.map_congr_left fun x hx=>he x (by simp only [Call.operands];simp [Array.mem_toList_iff.1 hx])
  cases callee with
  |value f=>
   have hf:σ.ev f=τ.ev f:=he f (by simp [Call.operands])
   cases f<;>simp only [hm,hh,hf]
  |invoke r n=>
   have hf:σ.ev r=τ.ev r:=he r (by simp [Call.operands])
   simp only [hm,hh,hf]
  |builtin b=>rfl
theorem zd2 {σ τ:St}{o:Oper}(he:∀x∈o.op.operands,σ.ev x=τ.ev x)(hh:σ.h=τ.h):Zh P σ o=Zh P τ o:=by
 unfold Zh
 rw[zb3 he hh,hh]
theorem zaV {σ τ:St}{o:Oper}(h:∀t∈o.looksAt ops,σ.tmp t=τ.tmp t):zW ops σ o=zW ops τ o:=by
 unfold zW
 split
 ·rfl
 ·next j want hg=>
  split
  ·rfl
  ·next d hd=>rw[h d (by simp [Oper.looksAt,hg,hd])]
theorem zO {o:Oper}{σ τ:St}(h:∀t∈o.looksAt ops,σ.tmp t=τ.tmp t):∀x∈o.op.operands,σ.ev x=τ.ev x:=fun x hx=>by
 cases x with
 |tmp t=>exact h t (List.mem_append_left _ (List.mem_filterMap.2 ⟨.tmp t,by simpa using hx,rfl⟩))
 |_=>rfl
theorem zbW {σ:St}{o:Oper}{d:Option Tmp}{v:Av}(h:∀t,d=some t→t∉o.looksAt ops):∀t∈o.looksAt ops,(σ.put d v).tmp t=σ.tmp t:=fun t ht=>by
 rw[Zl,if_neg fun e=>h t e ht]
theorem zcg {σ τ:St}{o:Oper}(he:∀x∈o.op.operands,σ.ev x=τ.ev x)(hh:σ.h=τ.h):Zy P σ o=Zy P τ o:=by
 obtain ⟨dst,op,type,pos,after,guard⟩:=o
 cases op<;>simp only [Op.operands] at he<;>cases dst<;>simp only [Zy]
 case buildSlice.some t n ps d=>
  have:∀x∈ps.toList,σ.ev x.2=τ.ev x.2:=fun x hx=>he _ (by simp;exact ⟨x.1,by simpa using hx⟩)
  rw[hh,List.map_congr_left (g:=fun p=>(p.1,τ.ev p.2)) fun p hp=>by rw[this p hp]]
 case call.some c d=>
  have hx:∀x∈c.args.toList,σ.ev x=τ.ev x:=fun x hx=>he x (by simp only [Call.operands];simp [Array.mem_toList_iff.1 hx])
  unfold zaa
  split
  ·split
   ·next x y T T' h1 h2=>rw[h1] at hx;rw[hh,hx x (by simp),hx y (by simp)]
   ·rfl
  ·rfl
 all_goals (first|rfl|(simp_all;done))
def isA:Op→Bool
 | .alloc _| .box .. | .buildSlice .. | .makeSlice .. =>true
 |_=>false
def isW:Op→Bool
 | .alloc _| .box .. | .buildSlice .. | .makeSlice .. | .store .. =>true
 | .call c=>match c.callee with| .builtin .append=>true|_=>false
 |_=>false
def zgn:Op→Bool
 | .load .. | .call _| .lookup .. | .index .. | .indexAddr .. | .convert .. =>false
 |op=>zbO op
def zhW:Op→Bool
 | .call c=>match c.callee with| .builtin .append=>true|_=>false
 |_=>false
def zlP:Op→Bool
 | .call _| .indexAddr .. =>false
 |_=>true
theorem zco {h h':Nat→Option Ow}{d:Nat}{cs:List Cl}{T:TypeId}{q:zcx}(hn:h d=none→h' d=none)(k:Zm h d cs T=some q):Zm h' d cs T=some q:=by
 unfold Zm at*
 split at k
 ·next h1=>rw[if_pos ⟨by rw[hn (Option.isNone_iff_eq_none.1 h1.1)];rfl,h1.2⟩];exact k
 ·cases k
theorem zgS {h h':Nat→Option Ow}{d:Nat}{E:TypeId}{xs:List (List D)}{q:zcx}(hn:h d=none→h' d=none)(k:zaJ h d E xs=some q):zaJ h' d E xs=some q:=by
 unfold zaJ at*
 split at k
 ·next h1=>rw[if_pos ⟨by rw[hn (Option.isNone_iff_eq_none.1 h1.1)];rfl,h1.2⟩];exact k
 ·cases k
theorem zjD {h h':Nat→Option Ow}{d:Nat}{T:TypeId}{n:Nat}{ps:List (Nat×Av)}{q:zcx}(hn:h d=none→h' d=none)(k:zdX P h d T n ps=some q):zdX P h' d T n ps=some q:=by
 unfold zdX at*
 split at k
 ·cases k
 ·split at k
  ·cases k
  ·split at k
   ·next hc=>
    rw[if_pos hc]
    split at k
    ·exact zgS hn k
    ·cases k
   ·cases k
theorem zhX {h h':Nat→Option Ow}{d:Nat}{T:TypeId}{x y:Av}{q:zcx}(hn:h d=none→h' d=none)(k:zb1 P h d T x y=some q):zb1 P h' d T x y=some q:=by
 unfold zb1 at*
 split at k
 ·split at k
  ·next hc=>rw[if_pos hc];exact zgS hn k
  ·cases k
 ·cases k
theorem zjE {h h':Nat→Option Ow}{E no:Nat}{y:Av}{ys:List (List D)}(hm:∀id x,h id=some x→h' id=some x)(k:zdY h E no y=some ys):zdY h' E no y=some ys:=by
 unfold zdY at*
 split at k
 ·exact k
 ·exact k
 ·split at k
  ·next hid=>rw[hm _ _ hid];exact k
  ·cases k
 ·cases k
theorem zhY {h h':Nat→Option Ow}{E:Nat}{y:Av}{q:Option (Nat×Nat×List (List D))}(hm:∀id x,h id=some x→h' id=some x)(k:zbV h E y=some q):zbV h' E y=some q:=by
 unfold zbV at*
 split at k
 ·split at k
  ·next hid=>rw[hm _ _ hid];exact k
  ·cases k
 ·exact k
 ·cases k
theorem zoV {h h':Nat→Option Ow}{d T:Nat}{x y:Av}{q:zcx}(hm:∀id x,h id=some x→h' id=some x)(hn:h d=none→h' d=none)(k:zdu P h d T x y=some q):zdu P h' d T x y=some q:=by
 unfold zdu at*
 split at k
 ·cases k
 ·split at k
  ·next hE=>
   rw[if_pos hE]
   unfold zeo at*
   split at k
   ·next hb=>
    rw[zhY hm hb]
    split at k
    ·next hr=>simp only [zjE hm hr];exact k
    ·cases k
   ·next hb=>
    rw[zhY hm hb]
    split at k
    ·next hr=>
     simp only [zjE hm hr]
     split at k
     ·next hc=>rw[if_pos ⟨by rw[hn (Option.isNone_iff_eq_none.1 hc.1)];rfl,hc.2.1,hc.2.2⟩];exact k
     ·cases k
    ·cases k
   ·cases k
  ·cases k
theorem zlQ {h h':Nat→Option Ow}{T:TypeId}{x y:Av}{q:zcx}(hm:∀id x,h id=some x→h' id=some x)(k:zaT P h T x y=some q):zaT P h' T x y=some q:=by
 unfold zaT at*
 split at k
 ·next n g id off ys h1 h2=>
  split at k
  ·next hid=>simp only [h2,hm _ _ hid];exact k
  ·cases k
 ·next n g id k0 sz i ys h1 h2=>
  split at k
  ·next hid=>simp only [h2,hm _ _ hid];exact k
  ·cases k
 ·cases k
theorem zjF {σ τ:St}{o:Oper}{q:zcx}(he:∀x∈o.op.operands,σ.ev x=τ.ev x)(hm:∀id x,σ.h id=some x→τ.h id=some x)(hn:∀d,o.dst=some d→σ.h d=none→τ.h d=none)(k:Zy P σ o=some q):Zy P τ o=some q:=by
 obtain ⟨dst,op,type,pos,after,guard⟩:=o
 cases op<;>simp only [Op.operands] at he<;>cases dst<;>simp only [Zy] at k ⊢
 case buildSlice.some t n ps d=>
  have:∀x∈ps.toList,σ.ev x.2=τ.ev x.2:=fun x hx=>he _ (by simp;exact ⟨x.1,by simpa using hx⟩)
  rw[List.map_congr_left (g:=fun p=>(p.1,τ.ev p.2)) fun p hp=>by rw[this p hp]] at k
  exact zjD (hn d rfl) k
 case makeSlice.some t n c d=>
  rw[he n (by simp),he c (by simp)] at k
  exact zhX (hn d rfl) k
 case call.some c d=>
  have hx:∀x∈c.args.toList,σ.ev x=τ.ev x:=fun x hx=>he x (by simp only [Call.operands];simp [Array.mem_toList_iff.1 hx])
  unfold zaa at*
  split at k
  ·split at k
   ·next x y T T' h1 h2=>
    rw[h1] at hx
    rw[hx x (by simp),hx y (by simp)] at k
    split at k
    ·next hT=>rw[if_pos hT];exact zoV hm (hn d rfl) k
    ·cases k
   ·cases k
  ·cases k
 case alloc.some T d=>
  cases hz:ZB P T with
  |none=>rw[hz] at k;cases k
  |some cs=>rw[hz] at k;exact zco (hn d rfl) k
 case box.some T x d=>
  rw[he x (by simp)] at k
  cases hz:zap (τ.ev x) with
  |none=>rw[hz] at k;cases k
  |some cs=>rw[hz] at k;exact zco (hn d rfl) k
 case store.none T p x=>
  rw[he p (by simp),he x (by simp)] at k
  exact zlQ hm k
 all_goals cases k
theorem zbS {σ:St}{o:Oper}{id:Nat}{x:Ow}{r:Av}(k:Zy P σ o=some (id,x,r)):(o.dst=some id∧σ.h id=none)∨(isA o.op=false∧∃y,σ.h id=some y):=by
 have nc:∀{d cs T},Zm σ.h d cs T=some (id,x,r)→some d=some id∧σ.h id=none:=fun h=>by obtain ⟨h1,_,h2⟩:=zd0 h;cases h2;exact ⟨rfl,h1⟩
 have na:∀{d E xs},zaJ σ.h d E xs=some (id,x,r)→some d=some id∧σ.h id=none:=fun h=>by obtain ⟨h1,_,h2⟩:=zff h;cases h2;exact ⟨rfl,h1⟩
 have nf:∀{d f cs},zbH σ.h d f cs=some (id,x,r)→some d=some id∧σ.h id=none:=fun h=>by obtain ⟨h1,_,h2⟩:=zhK h;cases h2;exact ⟨rfl,h1⟩
 obtain ⟨dst,op,type,pos,after,guard⟩:=o
 cases op<;>cases dst<;>simp only [Zy] at k
 case buildSlice.some t n ps d=>
  unfold zdX at k
  split at k
  ·cases k
  ·split at k
   ·cases k
   ·split at k
    ·split at k
     ·exact .inl (na k)
     ·cases k
    ·cases k
 case makeSlice.some t n c d=>
  unfold zb1 at k
  split at k
  ·split at k
   ·exact .inl (na k)
   ·cases k
  ·cases k
 case call.some c d=>
  unfold zaa at k
  split at k
  ·split at k
   ·split at k
    ·unfold zdu at k
     split at k
     ·cases k
     ·split at k
      ·unfold zeo at k
       split at k
       ·next hb=>
        split at k
        ·split at k
         ·cases k
          refine .inr ⟨rfl,?_⟩
          unfold zbV at hb
          split at hb
          ·split at hb
           ·next hid=>
            split at hb
            ·cases hb;exact ⟨_,hid⟩
            ·cases hb
           ·cases hb
          ·cases hb
          ·cases hb
         ·cases k
        ·cases k
       ·split at k
        ·split at k
         ·next hc=>cases k;exact .inl ⟨rfl,Option.isNone_iff_eq_none.1 hc.1⟩
         ·cases k
        ·cases k
       ·cases k
      ·cases k
    ·cases k
   ·cases k
  ·cases k
 case alloc.some T d=>
  obtain ⟨cs,_,hn⟩:=Option.bind_eq_some_iff.1 k;exact .inl (nc hn)
 case box.some T x d=>
  obtain ⟨cs,_,hn⟩:=Option.bind_eq_some_iff.1 k;exact .inl (nc hn)
 case store.none T p x=>
  unfold zaT at k
  split at k
  ·split at k
   ·next hid=>
    split at k
    ·cases k;exact .inr ⟨rfl,_,hid⟩
    ·cases k
   ·cases k
  ·split at k
   ·next hid=>
    split at k
    ·obtain ⟨ds,_,he⟩:=Option.map_eq_some_iff.1 k
     cases he;exact .inr ⟨rfl,_,hid⟩
    ·cases k
   ·cases k
  ·cases k
 all_goals cases k
theorem zmZ {σ σ':St}{o:Oper}(h:Ze P σ o=some σ'):∃id x r,Zy P σ o=some (id,x,r)∧σ'=(σ.new id x).put o.dst r:=by
 unfold Ze at h
 split at h
 ·next id x r hw=>exact ⟨id,x,r,hw,(Option.some.inj h).symm⟩
 ·cases h
theorem zdz {σ:St}{o:Oper}{id:Nat}{x:Ow}{r:Av}(h:Zy P σ o=some (id,x,r)):Ze P σ o=some ((σ.new id x).put o.dst r):=by unfold Ze;rw[h]
theorem zoW {σ τ:St}{o:Oper}(h:Eqv σ τ):(∀σ',Ze P σ o=some σ'→∃τ',Ze P τ o=some τ'∧Eqv σ' τ')∧(Ze P σ o=none→Ze P τ o=none):=by
 have e:=zcg (P:=P) (o:=o) (σ:=σ) (τ:=τ) (fun x _=>by rw[h.ev]) h.2
 refine ⟨fun σ' k=>?_,fun k=>?_⟩
 ·obtain ⟨id,x,r,h1,rfl⟩:=zmZ k
  exact ⟨_,zdz (e▸h1),(h.new _ _).put _ _⟩
 ·unfold Ze at*
  rw[←e]
  cases hw:Zy P σ o with
  |none=>rfl
  |some q=>rw[hw] at k;cases k
theorem zdA {σ τ:St}{o:Oper}{r:Av}(he:∀x∈o.op.operands,σ.ev x=τ.ev x)(hm:∀id x,σ.h id=some x→τ.h id=some x)(k:zJ P σ o=some r):zJ P τ o=some r:=by
 have e:zJ P ⟨τ.tmps,σ.own⟩ o=some r:=by
  rw[←k]
  refine zaC (fun x hx=>?_) rfl
  rw[he x hx]
  cases x<;>rfl
 have hh:∀x,(St.mk τ.tmps σ.own).ev x=τ.ev x:=fun x=>by cases x<;>rfl
 obtain ⟨dst,op,type,pos,after,guard⟩:=o
 cases op<;>simp only [zJ,hh] at e ⊢
 case load T x=>
  unfold zbr at*
  split at e
  ·split at e
   ·next hid=>rw[hm _ _ hid];exact e
   ·cases e
  ·split at e
   ·next hid=>rw[hm _ _ hid];exact e
   ·cases e
  ·exact e
  ·cases e
 case indexAddr T x i=>
  unfold Zi at*
  split at e
  ·exact e
  ·split at e
   ·next hid=>simp only [hm _ _ hid];exact e
   ·cases e
  ·cases e
 case call c=>
  have hf:(St.mk τ.tmps σ.own).ev=τ.ev:=funext hh
  unfold Zw at*
  split at e
  ·rw[hf] at e;exact e
  ·split at e
   ·next x T h1 h2=>
    rw[hh] at e
    split at e
    ·exact e
    unfold zes at*
    split at e
    ·exact e
    ·exact e
    ·exact e
    ·split at e
     ·next hid=>rw[hm _ _ hid];exact e
     ·cases e
    ·cases e
   ·cases e
  ·cases e
 case build T ps=>
  unfold zaB at*
  simp only [hh] at e
  exact e
 case slice T x lo hi mx=>
  cases mx with
  |none=>
   have e1:lo.map (St.mk τ.tmps σ.own).ev=lo.map τ.ev:=by cases lo<;>simp [hh]
   have e2:hi.map (St.mk τ.tmps σ.own).ev=hi.map τ.ev:=by cases hi<;>simp [hh]
   simp only [zJ,hh,e1,e2] at e ⊢
   exact e
  |some m=>simp only [zJ] at e;cases e
 all_goals exact e
def zfm (σ:St)(o:Oper):Bool:=match o.op with| .load _ x=>(match σ.ev x with| .c (.ga ..)=>false|_=>true)|_=>true
theorem zm0 {σ τ:St}{o:Oper}{r:Av}(hl:zlP o.op=true)(hg:zfm σ o=true)(he:∀x∈o.op.operands,σ.ev x=τ.ev x)(hm:∀id xs T,σ.h id=some (.cells xs T)→τ.h id=some (.cells xs T))(k:zJ P σ o=some r):zJ P τ o=some r:=by
 have e:zJ P ⟨τ.tmps,σ.own⟩ o=some r:=by
  rw[←k]
  refine zaC (fun x hx=>?_) rfl
  rw[he x hx]
  cases x<;>rfl
 have hh:∀x,(St.mk τ.tmps σ.own).ev x=τ.ev x:=fun x=>by cases x<;>rfl
 obtain ⟨dst,op,type,pos,after,guard⟩:=o
 cases op<;>simp only [zlP,Bool.false_eq_true] at hl<;>simp only [zJ,hh] at e ⊢
 case load T x=>
  unfold zbr at*
  split at e
  ·split at e
   ·next hid=>rw[hm _ _ _ hid];exact e
   ·cases e
  ·next hx=>
   have h1:=he x (by simp [Op.operands])
   simp only [zfm,h1,hx,Bool.false_eq_true] at hg
  ·exact e
  ·cases e
 case build T ps=>
  unfold zaB at*
  simp only [hh] at e
  exact e
 case slice T x lo hi mx=>
  cases mx with
  |none=>
   have e1:lo.map (St.mk τ.tmps σ.own).ev=lo.map τ.ev:=by cases lo<;>simp [hh]
   have e2:hi.map (St.mk τ.tmps σ.own).ev=hi.map τ.ev:=by cases hi<;>simp [hh]
   simp only [zJ,hh,e1,e2] at e ⊢
   exact e
  |some m=>simp only [zJ] at e;cases e
 all_goals exact e
theorem zoX {σ:St}{o:Oper}{id:Nat}{x:Ow}{r:Av}(ha:zhW o.op=true)(k:Zy P σ o=some (id,x,r)):σ.h id=none∨∃v E xs,σ.h id=some (.arr v E xs):=by
 obtain ⟨dst,op,type,pos,after,guard⟩:=o
 cases op<;>simp only [zhW,Bool.false_eq_true] at ha
 case call c=>
  cases dst with
  |none=>simp [Zy] at k
  |some d=>
   simp only [Zy] at k
   unfold zaa at k
   split at k
   ·split at k
    ·split at k
     ·unfold zdu at k
      split at k
      ·cases k
      ·split at k
       ·unfold zeo at k
        split at k
        ·next hb=>
         split at k
         ·split at k
          ·cases k
           unfold zbV at hb
           split at hb
           ·split at hb
            ·next hid=>
             split at hb
             ·cases hb;exact .inr ⟨_,_,_,hid⟩
             ·cases hb
            ·cases hb
           ·cases hb
           ·cases hb
          ·cases k
         ·cases k
        ·split at k
         ·split at k
          ·next hc=>cases k;exact .inl (Option.isNone_iff_eq_none.1 hc.1)
          ·cases k
         ·cases k
        ·cases k
       ·cases k
     ·cases k
    ·cases k
   ·cases k
theorem zqh {σ τ:St}{o:Oper}(hi:zgn o.op=true)(he:∀x∈o.op.operands,σ.ev x=τ.ev x):zJ P σ o=zJ P τ o:=by
 have h1:zJ P σ o=zJ P ⟨σ.tmps,[]⟩ o:=by
  have hh:∀x,(St.mk σ.tmps []).ev x=σ.ev x:=fun x=>by cases x<;>rfl
  have hf:(St.mk σ.tmps []).ev=σ.ev:=funext hh
  obtain ⟨dst,op,type,pos,after,guard⟩:=o
  cases op<;>simp only [zgn,zbO,Bool.false_eq_true] at hi<;>(try simp only [zJ,hh,hf,zaB])
  case slice T x lo hi mx=>cases mx<;>simp only [zJ,hh,hf]
 have h2:zJ P τ o=zJ P ⟨τ.tmps,[]⟩ o:=by
  have hh:∀x,(St.mk τ.tmps []).ev x=τ.ev x:=fun x=>by cases x<;>rfl
  have hf:(St.mk τ.tmps []).ev=τ.ev:=funext hh
  obtain ⟨dst,op,type,pos,after,guard⟩:=o
  cases op<;>simp only [zgn,zbO,Bool.false_eq_true] at hi<;>(try simp only [zJ,hh,hf,zaB])
  case slice T x lo hi mx=>cases mx<;>simp only [zJ,hh,hf]
 rw[h1,h2]
 refine zaC (fun x hx=>?_) rfl
 have:=he x hx
 cases x<;>exact this
theorem zoY {σ τ:St}{o:Oper}{K:St→Prop}(h:Eqv σ τ)(hK:zhV K)(k:zbD P σ o K):zbD P τ o K:=by
 unfold zbD at*
 rw[←zd2 (σ:=σ) (fun x _=>by rw[h.ev]) h.2]
 split
 ·next f args F hc=>
  rw[hc] at k
  obtain ⟨ha,R,hR,hr⟩:=k
  exact ⟨ha,R,hR,fun r h1 h2=>hK _ _ ((h.give F).put _ _) (hr r h1 h2)⟩
 ·next hc=>rw[hc] at k;exact k
theorem zoZ {σ τ:St}{o:Oper}{K:St→Prop}(h:Eqv σ τ)(hK:zhV K)(k:zjv P N σ o K):zjv P N τ o K:=by
 unfold zjv at*
 refine ⟨k.1,?_⟩
 rw[←zaC (σ:=σ) (fun x _=>by rw[h.ev]) h.2]
 have k2:=k.2
 split
 ·next r hv=>rw[hv] at k2;exact hK _ _ (h.put _ _) k2
 ·next hv=>
  rw[hv] at k2
  simp only at k2
  obtain ⟨w1,w2⟩:=zoW (P:=P) (o:=o) h
  cases hw:Ze P σ o with
  |none=>rw[w2 hw];rw[hw] at k2;exact zoY h hK k2
  |some σ'=>obtain ⟨τ',e,he⟩:=w1 _ hw;rw[e];rw[hw] at k2;exact hK _ _ he k2
theorem zsT {σ τ:St}{o:Oper}{K:St→Prop}(h:Eqv σ τ)(hK:zhV K)(k:opA P N ops σ o K):opA P N ops τ o K:=by
 unfold opA at*
 rw[←zaV (σ:=σ) fun t _=>h.1 t]
 split
 ·next g hg=>rw[hg] at k;exact ⟨fun e=>zoZ h hK (k.1 e),fun e=>⟨(k.2 e).1,hK _ _ (h.put _ _) (k.2 e).2⟩⟩
 ·next hg=>rw[hg] at k;exact k
theorem zey {σ:St}{o:Oper}{K K':St→Prop}(hK:∀σ,K σ→K' σ)(k:opA P N ops σ o K):opA P N ops σ o K':=by
 unfold opA at*
 split
 ·next g hg=>
  rw[hg] at k
  refine ⟨fun e=>?_,fun e=>⟨(k.2 e).1,hK _ (k.2 e).2⟩⟩
  obtain ⟨k1,k2⟩:=k.1 e
  refine ⟨k1,?_⟩
  split
  ·next hv=>rw[hv] at k2;exact hK _ k2
  ·next hv=>
   rw[hv] at k2
   simp only at k2
   split
   ·next hw=>rw[hw] at k2;exact hK _ k2
   ·next hw=>
    rw[hw] at k2
    simp only [zbD] at k2 ⊢
    split
    ·next hc=>rw[hc] at k2;obtain ⟨ha,R,hR,hr⟩:=k2;exact ⟨ha,R,hR,fun r h1 h2=>hK _ (hr r h1 h2)⟩
    ·next hc=>rw[hc] at k2;exact k2
 ·next hg=>rw[hg] at k;exact k
def Zu:Op→Bool
 | .call c=>match c.callee with| .builtin _=>false|_=>true
 |_=>false
theorem zo0 {σ:St}{o:Oper}(h:isW o.op=false):Zy P σ o=none:=by
 obtain ⟨dst,op,type,pos,after,guard⟩:=o
 cases op<;>simp only [isW,Bool.true_eq_false] at h<;>cases dst<;>simp only [Zy]
 case call.some c d=>
  unfold zaa
  split
  ·next hc=>simp [hc] at h
  ·rfl
theorem zbw {σ:St}{o:Oper}(h:isW o.op=false):Ze P σ o=none:=by unfold Ze;rw[zo0 h]
theorem zbT {o:Op}(h:Zu o=true):isW o=false:=by
 cases o<;>simp only [Zu,Bool.false_eq_true] at h<;>simp only [isW]
 case call c=>cases hc:c.callee<;>simp [hc] at h ⊢
theorem zm1 {o:Op}(h:zbO o=true):isW o=false:=by
 cases o<;>simp only [zbO,Bool.false_eq_true] at h<;>simp only [isW]
 case call c=>
  obtain ⟨callee,args,tys⟩:=c
  cases callee with
  |builtin b=>cases b<;>simp_all
  |_=>rfl
theorem zfn {σ:St}{o:Oper}(h:isW o.op=true):zJ P σ o=none:=by
 obtain ⟨dst,op,type,pos,after,guard⟩:=o
 cases op<;>simp only [isW,Bool.false_eq_true] at h<;>simp only [zJ]
 case call c=>
  unfold Zw
  split
  ·next hc=>simp [hc] at h
  ·next hc=>simp [hc] at h
  ·rfl
theorem zkM {σ:St}{o:Oper}(h:zbO o.op=true):Zh P σ o=none:=by
 obtain ⟨dst,op,type,pos,after,guard⟩:=o
 cases op<;>simp only [zbO,Bool.false_eq_true] at h<;>simp only [Zh,zy,Option.map_none]
 case call c=>
  obtain ⟨callee,args,tys⟩:=c
  cases callee with
  |builtin b=>rfl
  |_=>simp at h
theorem zlR {σ:St}{o:Oper}(h:isW o.op=true):Zh P σ o=none:=by
 obtain ⟨dst,op,type,pos,after,guard⟩:=o
 cases op<;>simp only [isW,Bool.false_eq_true] at h<;>simp only [Zh,zy,Option.map_none]
 case call c=>
  obtain ⟨callee,args,tys⟩:=c
  cases callee with
  |builtin b=>rfl
  |_=>simp at h
theorem zqi {h h':Nat→Option Ow}{x:Av}(k:Av.deep h x= []):Av.deep h' x= []:=by
 have one:∀x:Cl,Cl.deep h x= []→Cl.deep h' x= []:=fun x k=>by cases x<;>simp_all [Cl.deep,Cl.deepN]
 cases x with
 |c x=>exact one x k
 |agg xs=>simp only [Av.deep,List.flatMap_eq_nil_iff] at*;exact fun x hx=>one x (k x hx)
 |tup xs=>simp only [Av.deep,List.flatMap_eq_nil_iff] at*;exact fun p hp x hx=>one x (k p hp x hx)
 |any=>rfl
theorem zgo (h h':Nat→Option Ow):∀(xs:List Av) (Ts:List TypeId),ZY P [] h xs Ts=ZY P [] h' xs Ts
 | [],_=>by simp [ZY]
 |x::xs,[]=>by simp only [ZY,zhN];rw[zgo h h' xs []]
 |x::xs,T::Ts=>by simp only [ZY,zhN];rw[zgo h h' xs Ts]
variable (P) in
def zhZ (σ:St)(o:Oper):Prop:=∃f xs Ts,zy P ⟨σ.tmps,[]⟩ o=some (f,xs,Ts)∧xs.flatMap (Av.deep σ.h)= []
theorem zh0 {h:Nat→Option Ow}{E:TypeId}{x r:Av}(k:zbr P (zd []) E x=some r):zbr P h E x=some r:=by
 unfold zbr at*
 split at k
 ·next hl=>simp [zd] at k
 ·next hl=>simp [zd] at k
 ·next n g xs hl=>exact k
 ·cases k
theorem zcp {σ:St}{o:Oper}{q:FuncId×List Av×List TypeId}(h:Nat→Option Ow)(k:zy P ⟨σ.tmps,[]⟩ o=some q):∀{τ:St},(∀x∈o.op.operands,σ.ev x=τ.ev x)→zy P τ o=some q:=by
 intro τ he
 obtain ⟨dst,op,type,pos,after,guard⟩:=o
 have e0:∀x,(St.mk σ.tmps []).ev x=σ.ev x:=fun x=>by cases x<;>rfl
 cases op<;>simp only [Op.operands] at he<;>simp only [zy] at k ⊢
 case call c=>
  obtain ⟨callee,args,tys⟩:=c
  have hm:args.toList.map (St.mk σ.tmps []).ev=args.toList.map τ.ev:=List.map_congr_left fun x hx=>(e0 x).trans (he x (by simp only [Call.operands];simp [Array.mem_toList_iff.1 hx]))
  cases callee with
  |value f=>
   have hf:(St.mk σ.tmps []).ev f=τ.ev f:=(e0 f).trans (he f (by simp [Call.operands]))
   have key:∀{x:Av} {q},zam (zd []) x=some q→zam τ.h x=some q:=fun {x q} hq=>by
    unfold zam at*
    split at hq
    ·exact hq
    ·simp [zd] at hq
    ·cases hq
   cases f with
   |func f=>simp only [hm] at k ⊢;exact k
   |_=>
    simp only [hm,hf] at k ⊢
    obtain ⟨q',h1,h2⟩:=Option.map_eq_some_iff.1 k
    rw[key (x:=τ.ev _) h1];exact congrArg some h2
  |invoke r n=>
   have hf:(St.mk σ.tmps []).ev r=τ.ev r:=(e0 r).trans (he r (by simp [Call.operands]))
   have key:∀{x:Av} {q},zab P (zd []) x n=some q→zab P τ.h x n=some q:=fun {x q} hq=>by
    unfold zab at*
    split at hq
    ·split at hq
     ·exact hq
     ·obtain ⟨r,h1,h2⟩:=Option.map_eq_some_iff.1 hq
      rw[zh0 h1];exact congrArg some h2
     ·cases hq
    ·split at hq
     ·exact hq
     ·split at hq
      ·obtain ⟨r,h1,h2⟩:=Option.map_eq_some_iff.1 hq
       rw[zh0 h1];exact congrArg some h2
      ·cases hq
     ·exact hq
     ·cases hq
    ·exact hq
    ·cases hq
   simp only [hm,hf] at k ⊢
   obtain ⟨q',h1,h2⟩:=Option.map_eq_some_iff.1 k
   rw[key (x:=τ.ev r) h1];exact congrArg some h2
  |builtin b=>cases k
 all_goals cases k
theorem zch {σ τ:St}{o:Oper}(he:∀x∈o.op.operands,σ.ev x=τ.ev x)(k:zhZ P σ o):zhZ P τ o∧Zh P τ o=Zh P σ o∧∃f args,Zh P σ o=some (f,args,[]):=by
 obtain ⟨f,xs,Ts,h1,h2⟩:=k
 have hσ:=zcp σ.h h1 (τ:=σ) fun _ _=>rfl
 have hτ:=zcp τ.h h1 he
 have hτ0:=zcp τ.h h1 (τ:=⟨τ.tmps,[]⟩) fun x hx=>(he x hx).trans (by cases x<;>rfl)
 have h3:xs.flatMap (Av.deep τ.h)= []:=by
  rw[List.flatMap_eq_nil_iff] at*
  exact fun x hx=>zqi (h2 x hx)
 refine ⟨⟨f,xs,Ts,hτ0,h3⟩,?_,f,ZY P [] σ.h xs Ts,?_⟩
 ·unfold Zh;rw[hσ,hτ];simp only [Option.map_some,h2,h3];rw[zgo τ.h σ.h]
 ·unfold Zh;rw[hσ];simp only [Option.map_some,h2]
def ziZ (ops:Array Oper)(σ:St)(o:Oper):Bool:=ops.toList.all (fun p=> !zhW p.op)||zfm σ o
theorem zh1 {σ τ:St}{o:Oper}(he:∀x∈o.op.operands,σ.ev x=τ.ev x):ziZ ops σ o=ziZ ops τ o:=by
 have:zfm σ o=zfm τ o:=by
  unfold zfm
  obtain ⟨dst,op,type,pos,after,guard⟩:=o
  cases op<;>simp only [Op.operands] at he<;>simp only
  case load T x=>rw[he x (by simp)]
 unfold ziZ;rw[this]
variable (P N ops) in
def ValAt (σ:St)(o:Oper)(v:Av):Prop:=Zd N o=true∧((zW ops σ o=some true∧zJ P σ o=some v∧ziZ ops σ o=true)∨(zW ops σ o=some false∧v= .tup []))
theorem ValAt.op {σ:St}{o:Oper}{v:Av}(h:ValAt P N ops σ o v){K:St→Prop}(k:K (σ.put o.dst v)):opA P N ops σ o K:=by
 unfold opA
 obtain ⟨hd,⟨h1,h2,_⟩|⟨h1,rfl⟩⟩:=h
 ·rw[h1];exact ⟨fun _=>⟨hd,by rw[h2];exact k⟩,fun e=>(by cases e)⟩
 ·rw[h1];exact ⟨fun e=>(by cases e),fun _=>⟨hd,k⟩⟩
theorem ValAt.of {σ:St}{o:Oper}{K:St→Prop}(hv:zbO o.op=true)(hga:ziZ ops σ o=true)(k:opA P N ops σ o K):∃v,ValAt P N ops σ o v∧K (σ.put o.dst v):=by
 unfold opA at k
 split at k
 ·next g hg=>
  cases g with
  |true=>
   obtain ⟨hd,k2⟩:=k.1 rfl
   split at k2
   ·next r hr=>exact ⟨r,⟨hd,.inl ⟨hg,hr,hga⟩⟩,k2⟩
   ·rw[zbw (zm1 hv)] at k2
    simp only [zbD,zkM hv] at k2
  |false=>exact ⟨.tup [],⟨(k.2 rfl).1,.inr ⟨hg,rfl⟩⟩,(k.2 rfl).2⟩
 ·exact k.elim
variable (P ops) in
def strictOk (σ:St)(o:Oper)(fr:Bool):Prop:=fr=true∨zW ops σ o=some false∨(zJ P σ o).isSome=true∨isW o.op=true∨(Zu o.op=true∧zhZ P σ o)
theorem strictOk.congr {σ τ:St}{o:Oper}{fr:Bool}(h:strictOk P ops σ o fr)(he:∀t∈o.looksAt ops,σ.tmp t=τ.tmp t)(hm:∀id x,σ.h id=some x→τ.h id=some x):strictOk P ops τ o fr:=by
 unfold strictOk at*
 rw[←zaV he]
 rcases h with h|h|h|h|⟨h,h2⟩
 ·exact .inl h
 ·exact .inr (.inl h)
 ·obtain ⟨r,hr⟩:=Option.isSome_iff_exists.1 h
  exact .inr (.inr (.inl (by rw[zdA (zO he) hm hr];rfl)))
 ·exact .inr (.inr (.inr (.inl h)))
 ·exact .inr (.inr (.inr (.inr ⟨h,(zch (zO he) h2).1⟩)))
theorem zaW (σ:St)(id:Nat)(x:Ow)(t:Nat):(σ.new id x).tmp t=σ.tmp t:=rfl
theorem zsU {σ:St}{oi oj:Oper}{v:Av}{K:St→Prop}(hj:∃j:Nat,ops[j]? =some oj)(hi:ValAt P N ops σ oi v)(hap:oi.apart ops oj=true)(hW:isW oj.op=true→isA oj.op=true∨zgn oi.op=true∨(zhW oj.op=true∧zlP oi.op=true))(hK:zhV K)(hs:strictOk P ops (σ.put oi.dst v) oj false)(h:opA P N ops (σ.put oi.dst v) oj K):
  opA P N ops σ oj fun σ'=>ValAt P N ops σ' oi v∧K (σ'.put oi.dst v):=by
 obtain ⟨h1,h2,h3⟩:=Oper.apart_spec hap
 have lj:=zbW (ops:=ops) (σ:=σ) (o:=oj) (d:=oi.dst) (v:=v) h1
 have li:∀(σ:St) (r:Av),∀t∈oi.looksAt ops,σ.tmp t=(σ.put oj.dst r).tmp t:=fun σ r t ht=>(zbW (ops:=ops) (σ:=σ) (o:=oi) (d:=oj.dst) (v:=r) h3 t ht).symm
 have step:∀r,K ((σ.put oi.dst v).put oj.dst r)→ValAt P N ops (σ.put oj.dst r) oi v∧K ((σ.put oj.dst r).put oi.dst v):=fun r k=>by
  refine ⟨?_,hK _ _ (Eqv.swap σ v r h2) k⟩
  unfold ValAt at*
  rw[←zaV (li σ r),←zaC (zO (li σ r)) (ZG _ _ _).symm,←zh1 (zO (li σ r))];exact hi
 unfold opA at*
 have hg:=zaV lj
 have hv:=zaC (P:=P) (zO lj) (ZG σ oi.dst v)
 have hc:=zd2 (P:=P) (zO lj) (ZG σ oi.dst v)
 have hw:=zcg (P:=P) (zO lj) (ZG σ oi.dst v)
 unfold strictOk at hs
 have hcd:zhZ P (σ.put oi.dst v) oj↔zhZ P σ oj:=⟨fun h=>(zch (zO lj) h).1,fun h=>(zch (fun x hx=>(zO lj x hx).symm) h).1⟩
 rw[hg] at h hs;rw[hv,hcd] at hs
 split at h
 ·next g hgg=>
  refine ⟨fun e=>?_,fun e=>⟨(h.2 e).1,step _ (h.2 e).2⟩⟩
  subst e
  obtain ⟨hd,k⟩:=h.1 rfl
  refine ⟨hd,?_⟩
  rw[hv] at k
  rcases hs with hs|hs|hs|hs|⟨hp,hs⟩
  ·cases hs
  ·rw[hgg] at hs;cases hs
  ·obtain ⟨r,hr⟩:=Option.isSome_iff_exists.1 hs
   rw[hr] at k ⊢
   exact step _ k
  ·rw[zfn hs] at k ⊢
   simp only at k ⊢
   unfold Ze at k ⊢
   rw[hw] at k
   cases hq:Zy P σ oj with
   |none=>rw[hq] at k;simp only [zbD,zlR hs] at k
   |some q=>
    obtain ⟨id,x,r⟩:=q
    rw[hq] at k
    simp only at k ⊢
    have lt:∀t∈oi.looksAt ops,σ.tmp t=((σ.new id x).put oj.dst r).tmp t:=fun t ht=>by rw[←li (σ.new id x) r t ht,zaW]
    refine ⟨?_,hK _ _ ?_ k⟩
    ·unfold ValAt at*
     rw[←zaV lt]
     obtain ⟨hd,⟨g1,g2,g3⟩|g⟩:=hi
     ·refine ⟨hd,.inl ⟨g1,?_,by rw[←zh1 (zO lt)];exact g3⟩⟩
      rcases hW hs with hA|hI|⟨hI,hL⟩
      ·refine zdA (zO lt) (fun id' y hy=>?_) g2
       rw[ZG,zt]
       rcases zbS hq with ⟨_,hn⟩|⟨hn,_⟩
       ·have:id'≠id:=fun e=>by rw[e,hn] at hy;cases hy
        simp [this,hy]
       ·rw[hn] at hA;cases hA
      ·rw[←zqh hI (zO lt)];exact g2
      ·refine zm0 hL (by
        rcases (Bool.or_eq_true ..).mp g3 with h|h
        ·obtain ⟨j,hj⟩:=hj
         have:=List.all_eq_true.1 h oj (by rw[Array.mem_toList_iff];exact Array.mem_of_getElem? hj)
         rw[hI] at this;cases this
        ·exact h) (zO lt) (fun id' ys T hy=>?_) g2
       rw[ZG,zt]
       have:id'≠id:=fun e=>by
        rcases zoX hI hq with h|⟨v,E,xs,h⟩
        ·rw[e,h] at hy;cases hy
        ·rw[e,h] at hy;cases hy
       simp [this,hy]
     ·exact ⟨hd,.inr g⟩
    ·have e1:Eqv ((σ.put oi.dst v).new id x) ((σ.new id x).put oi.dst v):=⟨fun t=>by rw[zaW,Zl,Zl,zaW],by rw[zt,ZG,ZG,zt]⟩
     exact (e1.put _ _).trans (Eqv.swap (σ.new id x) v r h2)
  ·cases hr:zJ P σ oj with
   |some r=>rw[hr] at k;exact step _ k
   |none=>
    rw[hr] at k
    simp only [zbw (zbT hp)] at k ⊢
    unfold zbD at k ⊢
    obtain ⟨f,args,hs⟩:=(zch (fun _ _=>rfl) hs).2.2
    rw[hc,hs] at k
    rw[hs]
    obtain ⟨ha,R,hR,hr⟩:=k
    exact ⟨ha,R,hR,fun r r1 r2=>step r (hr r r1 r2)⟩
 ·exact h.elim
theorem zuo {σ τ:St}{o:Oper}{q:zcx}(hA:isA o.op=true)(he:∀x∈o.op.operands,σ.ev x=τ.ev x)(hn:τ.h q.1=none)(k:Zy P σ o=some q):Zy P τ o=some q:=by
 have hd:∀d,o.dst=some d→d=q.1:=fun d hd=>by
  rcases zbS (id:=q.1) (x:=q.2.1) (r:=q.2.2) k with ⟨h,_⟩|⟨h,_⟩
  ·rw[hd] at h;exact Option.some.inj h
  ·rw[hA] at h;cases h
 obtain ⟨dst,op,type,pos,after,guard⟩:=o
 cases op<;>simp only [isA,Bool.false_eq_true] at hA<;>simp only [Op.operands] at he<;>cases dst<;>simp only [Zy] at k ⊢
 case alloc.some T d=>
  have hd:=hd d rfl;subst hd
  cases hz:ZB P T with
  |none=>rw[hz] at k;cases k
  |some cs=>rw[hz] at k;exact zco (h:=σ.h) (fun _=>hn) k
 case box.some T x d=>
  have hd:=hd d rfl;subst hd
  rw[he x (by simp)] at k
  cases hz:zap (τ.ev x) with
  |none=>rw[hz] at k;cases k
  |some cs=>rw[hz] at k;exact zco (h:=σ.h) (fun _=>hn) k
 case buildSlice.some t n ps d=>
  have hd:=hd d rfl;subst hd
  have:∀x∈ps.toList,σ.ev x.2=τ.ev x.2:=fun x hx=>he _ (by simp;exact ⟨x.1,by simpa using hx⟩)
  rw[List.map_congr_left (g:=fun p=>(p.1,τ.ev p.2)) fun p hp=>by rw[this p hp]] at k
  exact zjD (h:=σ.h) (fun _=>hn) k
 case makeSlice.some t n c d=>
  have hd:=hd d rfl;subst hd
  rw[he n (by simp),he c (by simp)] at k
  exact zhX (h:=σ.h) (fun _=>hn) k
 all_goals cases k
variable (P) in
def zuT (σ:St)(oi oj:Oper)(q:zcx):Prop:=isA oi.op=true∨Zu oj.op=true∨∃u,zJ P σ oj=some u∧zJ P ((σ.new q.1 q.2.1).put oi.dst q.2.2) oj=some u
theorem zm2 {σ:St}{oi oj:Oper}{d:Nat}{x:Ow}{r:Av}{K:St→Prop}(hW:isW oi.op=true)(gi:oi.guard=none)(hi:Zy P σ oi=some (d,x,r))(hcm:zuT P σ oi oj (d,x,r))(hap:oi.apart ops oj=true)(hK:zhV K)(hs:strictOk P ops σ oj false)
  (h:opA P N ops σ oj fun σ'=>opA P N ops σ' oi K):strictOk P ops ((σ.new d x).put oi.dst r) oj false∧opA P N ops ((σ.new d x).put oi.dst r) oj K:=by
 obtain ⟨h1,h2,h3⟩:=Oper.apart_spec hap
 have lj:∀t∈oj.looksAt ops,σ.tmp t=((σ.new d x).put oi.dst r).tmp t:=fun t ht=>by rw[zbW (ops:=ops) (o:=oj) h1 t ht,zaW]
 have hm:isA oi.op=true→oi.dst=some d∧σ.h d=none∧∀id y,σ.h id=some y→((σ.new d x).put oi.dst r).h id=some y:=fun hA=>by
  obtain ⟨hdst,hdn⟩:oi.dst=some d∧σ.h d=none:=by
   rcases zbS hi with h|⟨h,_⟩
   ·exact h
   ·rw[hA] at h;cases h
  refine ⟨hdst,hdn,fun id y hy=>?_⟩
  have:id≠d:=fun e=>by rw[e,hdn] at hy;cases hy
  rw[ZG,zt];simp [this,hy]
 have vv:∀u,zJ P σ oj=some u→zJ P ((σ.new d x).put oi.dst r) oj=some u:=fun u hu=>by
  rcases hcm with hA|hp|⟨u',h1,h2⟩
  ·exact zdA (zO lj) (hm hA).2.2 hu
  ·exfalso
   obtain ⟨dst,op,type,pos,after,guard⟩:=oj
   cases op<;>simp only [Zu,Bool.false_eq_true] at hp
   case call c=>
    simp only [zJ,Zw] at hu
    split at hu
    ·next hc=>simp [hc] at hp
    ·next hc=>simp [hc] at hp
    ·cases hu
  ·rw[h1] at hu;cases hu;exact h2
 have after:∀σ':St,Zy P σ' oi=some (d,x,r)→opA P N ops σ' oi K→K ((σ'.new d x).put oi.dst r):=fun σ' hw k=>by
  unfold opA at k
  have g:zW ops σ' oi=some true:=by unfold zW;rw[gi]
  rw[g] at k
  obtain ⟨_,k⟩:=k.1 rfl
  rw[zfn hW] at k
  simp only at k
  rw[zdz hw] at k
  exact k
 have hs2:strictOk P ops ((σ.new d x).put oi.dst r) oj false:=by
  have hs':=hs
  unfold strictOk at hs' ⊢
  rw[←zaV lj]
  rcases hs' with h|h|h|h|⟨h,h2⟩
  ·exact .inl h
  ·exact .inr (.inl h)
  ·obtain ⟨u,hu⟩:=Option.isSome_iff_exists.1 h
   exact .inr (.inr (.inl (by rw[vv u hu];rfl)))
  ·exact .inr (.inr (.inr (.inl h)))
  ·exact .inr (.inr (.inr (.inr ⟨h,(zch (zO lj) h2).1⟩)))
 refine ⟨hs2,?_⟩
 have step:∀u,opA P N ops (σ.put oj.dst u) oi K→K (((σ.new d x).put oi.dst r).put oj.dst u):=fun u k=>by
  have k2:=after _ (by
   rw[←hi]
   exact (zcg (zO (ops:=ops) fun t ht=>(zbW (ops:=ops) (o:=oi) h3 t ht).symm) (ZG _ _ _).symm).symm) k
  refine hK _ _ ?_ k2
  have e1:Eqv ((σ.put oj.dst u).new d x) ((σ.new d x).put oj.dst u):=⟨fun t=>by rw[zaW,Zl,Zl,zaW],by rw[zt,ZG,ZG,zt]⟩
  exact (e1.put _ _).trans (Eqv.swap (σ.new d x) u r fun t ht he=>h2 t he ht)
 unfold opA at h ⊢
 rw[←zaV lj]
 unfold strictOk at hs
 split at h
 ·next g hg=>
  refine ⟨fun e=>?_,fun e=>⟨(h.2 e).1,step _ (h.2 e).2⟩⟩
  subst e
  obtain ⟨hd,k⟩:=h.1 rfl
  refine ⟨hd,?_⟩
  cases hv:zJ P σ oj with
  |some u=>rw[hv] at k;rw[vv u hv];exact step _ k
  |none=>
   rw[hv] at k
   simp only at k
   rcases hs with hs|hs|hs|hs|⟨hp,hs⟩
   ·cases hs
   ·rw[hg] at hs;cases hs
   ·rw[hv] at hs;cases hs
   ·rw[zfn hs]
    simp only
    cases hq:Zy P σ oj with
    |none=>unfold Ze at k;rw[hq] at k;simp only [zbD,zlR hs] at k
    |some q=>
     obtain ⟨id,y,u⟩:=q
     rw[zdz hq] at k
     simp only at k
     have hA:isA oi.op=true:=by
      rcases hcm with hA|hp|⟨u',h1,_⟩
      ·exact hA
      ·rw[zbT hp] at hs;cases hs
      ·rw[hv] at h1;cases h1
     obtain ⟨hdst,hdn,hm⟩:=hm hA
     have hne:id≠d:=fun e=>by
      rcases zbS hq with ⟨q1,_⟩|⟨_,z,q1⟩
      ·rw[e] at q1;exact h2 d hdst q1
      ·rw[e,hdn] at q1;cases q1
     have hq2:Zy P ((σ.new d x).put oi.dst r) oj=some (id,y,u):=zjF (zO lj) hm (fun d' hd' hn=>by
      have:d'≠d:=fun e=>by rw[e] at hd';exact h2 d hdst hd'
      rw[ZG,zt];simp [this,hn]) hq
     rw[zdz hq2]
     simp only
     have k2:=after _ (zuo (σ:=σ) hA (zO (ops:=ops) fun t ht=>by rw[zbW (ops:=ops) (o:=oi) h3 t ht,zaW]) (by rw[ZG,zt];simp [Ne.symm hne,hdn]) hi) k
     refine hK _ _ ⟨fun t=>?_,?_⟩ k2
     ·rw[Zl,zaW,Zl,zaW,Zl,zaW,Zl,zaW]
      by_cases e1:oi.dst=some t
      ·rw[if_pos e1,if_neg (h2 t e1),if_pos e1]
      ·rw[if_neg e1,if_neg e1]
     ·rw[ZG,zt,ZG,zt,ZG,zt,ZG,zt]
      funext j
      by_cases e1:j=d<;>by_cases e2:j=id
      ·exact absurd (e2.symm.trans e1) hne
      ·simp [e1,e2,Ne.symm hne]
      ·simp [e1,e2,hne]
      ·simp [e1,e2]
   ·have hw:zJ P ((σ.new d x).put oi.dst r) oj=none:=by
     obtain ⟨dst,op,type,pos,after,guard⟩:=oj
     cases op<;>simp only [Zu,Bool.false_eq_true] at hp<;>simp only [zJ]
     case call c=>
      unfold Zw
      split
      ·next hc=>simp [hc] at hp
      ·next hc=>simp [hc] at hp
      ·rfl
    rw[hw]
    simp only [zbw (zbT hp)] at k ⊢
    unfold zbD at k ⊢
    rw[(zch (zO lj) hs).2.1]
    obtain ⟨f,args,hs⟩:=(zch (zO lj) hs).2.2
    rw[hs] at k ⊢
    obtain ⟨ha,R,hR,hr⟩:=k
    exact ⟨ha,R,hR,fun u r1 r2=>step u (hr u r1 r2)⟩
 ·exact h.elim
variable (P N ops) in
def zkN (B:List Nat)(K:St→Prop):Nat→Array Bool→St→Prop
 |0,listed,σ=>Region.ready .any ops listed= []∧K σ
 |n+1,listed,σ=>(Region.ready .any ops listed= []→K σ)∧
  ∀i∈Region.ready .any ops listed,∃o,ops[i]? =some o∧strictOk P ops σ o (B.contains i)∧opA P N ops σ o fun σ'=>zkN B K n (listed.setIfInBounds i true) σ'
variable {B:List Nat} {K:St→Prop}
theorem zgp (hK:zhV K):∀(n:Nat) (listed:Array Bool),zhV (zkN P N ops B K n listed)
 |0,_,_,_,e,h=>⟨h.1,hK _ _ e h.2⟩
 |n+1,listed,_,_,e,h=>⟨fun hr=>hK _ _ e (h.1 hr),fun i hi=>by
  obtain ⟨o,ho,hs,hop⟩:=h.2 i hi
  exact ⟨o,ho,hs.congr (fun t _=>e.1 t) (fun id x hx=>by rw[←e.2];exact hx),zsT e (zgp hK n _) hop⟩⟩
theorem zm3 {i:Nat}{oi:Oper}{v:Av}(hK:zhV K)(hi:ops[i]? =some oi):
  ∀(n:Nat) (listed:Array Bool) (σ:St),
   (∀j oj,ops[j]? =some oj→j≠i→listed.getD j true=false→(∀e∈oj.after,Region.binds .any e=true→e.on≠i)→oi.apart ops oj=true)→
   (∀j,B.contains j=true→j≠i→listed.getD j true=false→zax ops 64 j i=true)→
   (∀j oj,ops[j]? =some oj→j≠i→listed.getD j true=false→isW oj.op=true→isA oj.op=true∨zgn oi.op=true∨(zhW oj.op=true∧zlP oi.op=true)∨zax ops 64 j i=true)→Closed ops listed→
   i∈Region.ready .any ops listed→ValAt P N ops σ oi v→
   zkN P N ops B K n (listed.setIfInBounds i true) (σ.put oi.dst v)→zkN P N ops B K (n+1) listed σ:=by
 have str:∀{σ:St} {fr:Bool},ValAt P N ops σ oi v→strictOk P ops σ oi fr:=fun {σ fr} hv=>by
  obtain ⟨_,⟨_,h,_⟩|⟨h,_⟩⟩:=hv
  ·exact .inr (.inr (.inl (by rw[h];rfl)))
  ·exact .inr (.inl h)
 intro n
 induction n with
 |zero=>
  intro listed σ _ _ _ _ hr hy H
  refine ⟨fun h=>(by rw[h] at hr;cases hr),fun j hj=>?_⟩
  by_cases hji:j=i
  ·subst hji;exact ⟨oi,hi,str hy,hy.op H⟩
  ·have:=ready_mono hj hji
   rw[H.1] at this
   cases this
 |succ n ih=>
  intro listed σ hfree hbar hww hcl hr hy H
  refine ⟨fun h=>(by rw[h] at hr;cases hr),fun j hj=>?_⟩
  by_cases hji:j=i
  ·subst hji;exact ⟨oi,hi,str hy,hy.op H⟩
  ·obtain ⟨oj,hoj,hst,h1⟩:=H.2 j (ready_mono hj hji)
   obtain ⟨hjun,oj',hoj',hall⟩:=mem_ready.1 hj
   have hjj:oj'=oj:=by rw[hoj] at hoj';exact (Option.some.inj hoj').symm
   rw[hjj] at hall
   have hnw:zax ops 64 j i=true→False:=fun hw=>zdy (mem_ready.1 hr).1 (zac hcl 64 j hw fun o ho=>by rw[hoj] at ho;cases ho;exact hall)
   have hnot:∀e∈oj.after,Region.binds .any e=true→e.on≠i:=fun e he hb heq=>by
    have h1:=hall e he hb
    rw[heq] at h1
    exact zdy (mem_ready.1 hr).1 h1
   have hap:=hfree j oj hoj hji hjun hnot
   have hnB:B.contains j=false:=by
    cases hc:B.contains j with
    |false=>rfl
    |true=>exact (hnw (hbar j hc hji hjun)).elim
   rw[hnB] at hst
   have h2:=zsU ⟨j,hoj⟩ hy hap (fun hw=>(hww j oj hoj hji hjun hw).imp id fun h=>h.imp id fun h=>h.resolve_right fun h=>hnw h) (zgp hK n _) hst h1
   have hlj:∀t∈oj.looksAt ops,(σ.put oi.dst v).tmp t=σ.tmp t:=zbW (Oper.apart_spec hap).1
   have un:∀{k},(listed.setIfInBounds j true).getD k true=false→listed.getD k true=false:=fun {k} hun=>by
    by_cases hjk:j=k
    ·subst hjk;exact hjun
    ·rw[getD_set_ne true hjk] at hun;exact hun
   refine ⟨oj,hoj,by rw[hnB];exact hst.congr hlj fun id x hx=>by rw[ZG] at hx;exact hx,zey (fun σ' h3=>?_) h2⟩
   refine ih (listed.setIfInBounds j true) σ' (fun k ok hk hki hun hno=>hfree k ok hk hki (un hun) hno) (fun k hk hki hun=>hbar k hk hki (un hun)) (fun k ok hk hki hun=>hww k ok hk hki (un hun)) (hcl.set hj) (ready_mono hr (Ne.symm hji)) h3.1 ?_
   rw[Array.setIfInBounds_comm _ _ hji]
   exact h3.2
variable (P N ops) in
def AOk (σ:St)(oj:Oper)(i:Nat):Prop:=∃o q,ops[i]? =some o∧isW o.op=true∧o.guard=none∧Zd N o=true∧Zy P σ o=some q∧zuT P σ o oj q
theorem zo1 {j:Nat}{oj:Oper}(hK:zhV K)(hoj:ops[j]? =some oj):
  ∀(n:Nat) (listed:Array Bool) (σ:St) (As:List Nat),
   (∀k∈Region.ready .any ops listed,k=j∨k∈As)→j∈Region.ready .any ops listed→(∀i∈As,i∈Region.ready .any ops listed∧i≠j∧AOk P N ops σ oj i∧∀oi,ops[i]? =some oi→oi.apart ops oj=true)→
   (∀i∈As,∀k∈As,i≠k→∀oi ok,ops[i]? =some oi→ops[k]? =some ok→oi.apart ops ok=true∧(isA oi.op=true∨isA ok.op=true))→As.length≤n→
   (∀k,k<ops.size→k≠j→k∉As→listed.getD k true=false→zax ops 64 k j=true)→Closed ops listed→strictOk P ops σ oj (B.contains j)→(As≠ []→strictOk P ops σ oj false)→
   opA P N ops σ oj (fun σ'=>zkN P N ops B K n (listed.setIfInBounds j true) σ')→zkN P N ops B K (n+1) listed σ:=by
 intro n
 induction n with
 |zero=>
  intro listed σ As hsub hj hA _ hlen _ _ hs _ h
  have:As= []:=List.eq_nil_of_length_eq_zero (by omega)
  subst this
  refine ⟨fun e=>(by rw[e] at hj;cases hj),fun k hk=>?_⟩
  rcases hsub k hk with rfl|h0
  ·exact ⟨oj,hoj,hs,h⟩
  ·cases h0
 |succ n ih=>
  intro listed σ As hsub hj hA hAA hlen hwait hcl hs hst h
  refine ⟨fun e=>(by rw[e] at hj;cases hj),fun k hk=>?_⟩
  rcases hsub k hk with rfl|hkA
  ·exact ⟨oj,hoj,hs,h⟩
  ·obtain ⟨hkr,hkj,⟨oi,⟨d,x,r⟩,hoi,hWi,hgi,hdi,hwi,hcm⟩,hap⟩:=hA k hkA
   have hap:=hap oi hoi
   have hstr:=hst (List.ne_nil_of_mem hkA)
   have h1:opA P N ops σ oj fun σ'=>opA P N ops σ' oi fun σ''=>zkN P N ops B K n ((listed.setIfInBounds k true).setIfInBounds j true) σ'':=by
    refine zey (fun σ' h=>?_) h
    obtain ⟨o,ho,_,h2⟩:=h.2 k (ready_mono hk hkj)
    rw[hoi] at ho;cases ho
    rw[Array.setIfInBounds_comm _ _ (Ne.symm hkj)] at h2
    exact h2
   obtain ⟨hs2,h2⟩:=zm2 hWi hgi hwi hcm hap (zgp hK n _) hstr h1
   refine ⟨oi,hoi,.inr (.inr (.inr (.inl hWi))),?_⟩
   unfold opA
   rw[show zW ops σ oi=some true by unfold zW;rw[hgi]]
   refine ⟨fun _=>⟨hdi,?_⟩,fun e=>(by cases e)⟩
   rw[zfn hWi]
   simp only
   rw[zdz hwi]
   simp only
   have hkun:=(mem_ready.1 hk).1
   have un:∀{l},(listed.setIfInBounds k true).getD l true=false→l≠k∧listed.getD l true=false:=fun {l} hun=>by
    by_cases hjk:k=l
    ·subst hjk
     exact (zdy hun (by
      have:k<listed.size:=by
       rcases Nat.lt_or_ge k listed.size with h|h
       ·exact h
       ·simp [Array.getElem?_eq_none h] at hkun
      simp [this])).elim
    ·exact ⟨Ne.symm hjk,by rw[getD_set_ne true hjk] at hun;exact hun⟩
   have hcl2:=hcl.set hk
   refine ih (listed.setIfInBounds k true) _ (As.filter (· !=k)) (fun l hl=>?_) (ready_mono hj (Ne.symm hkj)) (fun i hi=>?_) (fun i hi l hl=>hAA i ((List.mem_filter.1 hi).1) l ((List.mem_filter.1 hl).1)) ?_ (fun l hls hlj hlA hun=>?_) hcl2 ?_ (fun _=>hs2) h2
   ·obtain ⟨hlun,ol,hol,hall⟩:=mem_ready.1 hl
    obtain ⟨hlk,hlun'⟩:=un hlun
    by_cases hlj:l=j
    ·exact .inl hlj
    ·by_cases hlA:l∈As
     ·exact .inr (List.mem_filter.2 ⟨hlA,by simpa using hlk⟩)
     ·have hw:=hwait l (Array.getElem?_eq_some_iff.1 hol).1 hlj hlA hlun'
      exact (zdy (mem_ready.1 (ready_mono hj (Ne.symm hkj))).1 (zac hcl2 64 l hw fun o ho=>by rw[hol] at ho;cases ho;exact hall)).elim
   ·obtain ⟨hiA,hik⟩:=List.mem_filter.1 hi
    have hik:i≠k:=by simpa using hik
    obtain ⟨r1,r2,⟨o2,q2,ho2,a2,g2,d2,w2,c2⟩,r4⟩:=hA i hiA
    obtain ⟨hap2,hAor⟩:=hAA k hkA i hiA (Ne.symm hik) oi o2 hoi ho2
    obtain ⟨p1,p2,p3⟩:=Oper.apart_spec hap2
    have he:∀y∈o2.op.operands,σ.ev y=((σ.new d x).put oi.dst r).ev y:=zO (ops:=ops) fun t ht=>by rw[zbW (ops:=ops) (o:=o2) p1 t ht,zaW]
    by_cases hAi:isA oi.op=true
    ·obtain ⟨hdst,hdn⟩:oi.dst=some d∧σ.h d=none:=by
      rcases zbS hwi with h|⟨h,_⟩
      ·exact h
      ·rw[hAi] at h;cases h
     have hmm:∀id y,σ.h id=some y→((σ.new d x).put oi.dst r).h id=some y:=fun id y hy=>by
      have:id≠d:=fun e=>by rw[e,hdn] at hy;cases hy
      rw[ZG,zt];simp [this,hy]
     have w3:=zjF he hmm (fun d' hd' hn=>by
      have:d'≠d:=fun e=>by rw[e] at hd';exact p2 d hdst hd'
      rw[ZG,zt];simp [this,hn]) w2
     refine ⟨ready_mono r1 hik,r2,⟨o2,q2,ho2,a2,g2,d2,w3,?_⟩,r4⟩
     rcases c2 with c|c|⟨u,c,c'⟩
     ·exact .inl c
     ·exact .inr (.inl c)
     ·obtain ⟨s1,s2,s3⟩:=Oper.apart_spec hap
      have ljj:∀t∈oj.looksAt ops,σ.tmp t=((σ.new d x).put oi.dst r).tmp t:=fun t ht=>by rw[zbW (ops:=ops) (o:=oj) s1 t ht,zaW]
      refine .inr (.inr ⟨u,zdA (zO ljj) hmm c,zdA (zO (ops:=ops) fun t ht=>?_) (fun id y hy=>?_) c'⟩)
      ·rw[Zl,Zl,zaW,zaW]
       split
       ·rfl
       ·exact ljj t ht
      ·rw[ZG,zt] at hy ⊢
       simp only at hy ⊢
       by_cases e:id=q2.1
       ·rw[if_pos e] at hy ⊢;exact hy
       ·rw[if_neg e] at hy ⊢;exact hmm id y hy
    ·have hA2:isA o2.op=true:=hAor.resolve_left hAi
     refine ⟨ready_mono r1 hik,r2,⟨o2,q2,ho2,a2,g2,d2,zuo hA2 he ?_ w2,.inl hA2⟩,r4⟩
     obtain ⟨hdst,hdn⟩:o2.dst=some q2.1∧σ.h q2.1=none:=by
      rcases zbS (id:=q2.1) (x:=q2.2.1) (r:=q2.2.2) w2 with h|⟨h,_⟩
      ·exact h
      ·rw[hA2] at h;cases h
     have hne:q2.1≠d:=fun e=>by
      rcases zbS hwi with ⟨h,_⟩|⟨_,z,h⟩
      ·exact p2 d h (by rw[hdst,e])
      ·rw[e,h] at hdn;cases hdn
     rw[ZG,zt];simp [hne,hdn]
   ·have:(As.filter (· !=k)).length<As.length:=by
     have h3:=List.length_filter_lt_length_iff_exists (p:=(· !=k)) (l:=As)
     exact h3.2 ⟨k,hkA,by simp⟩
    omega
   ·obtain ⟨hlk,hun'⟩:=un hun
    exact hwait l hls hlj (fun h=>hlA (List.mem_filter.2 ⟨h,by simpa using hlk⟩)) hun'
   ·rcases hs2 with h|h
    ·cases h
    ·exact .inr h
variable (P N ops B) in
def zh2 (K:St→Prop):List (Nat×List Nat)→St→Prop
 | [],σ=>K σ
 |(i,As)::is,σ=>∃o,ops[i]? =some o∧strictOk P ops σ o (B.contains i)∧((∀k∈As,AOk P N ops σ o k)∧ziZ ops σ o=true)∧opA P N ops σ o fun σ'=>zh2 K is σ'
def zn7 (ops:Array Oper)(B:List Nat)(listed:Array Bool)(i:Nat):Bool:=
 zkK ops B listed i && (List.range ops.size).all fun j=>j==i||listed.getD j true||match ops[j]?,ops[i]? with
  |some oj,some oi=> !isW oj.op||isA oj.op||zgn oi.op||(zhW oj.op && zlP oi.op)||zax ops 64 j i
  |_,_=>true
def zqj (ops:Array Oper)(B:List Nat)(listed:Array Bool)(j:Nat)(As:List Nat)(n:Nat):Bool:=
 (Region.ready .any ops listed).contains j && (Region.ready .any ops listed).all (fun k=>k==j||As.contains k) && decide (As.length≤n) && (As.isEmpty|| !B.contains j) &&
 As.all (fun i=>(Region.ready .any ops listed).contains i && i !=j && (match ops[i]?,ops[j]? with|some oi,some oj=>oi.apart ops oj|_,_=>false) &&
  As.all fun k=>i==k||(match ops[i]?,ops[k]? with|some oi,some ok=>oi.apart ops ok && (isA oi.op||isA ok.op)|_,_=>false)) &&
 (As.isEmpty||(List.range ops.size).all fun k=>k==j||As.contains k||listed.getD k true||zax ops 64 k j)
def zqk (ops:Array Oper)(B:List Nat)(listed:Array Bool)(i:Nat)(As:List Nat)(n:Nat):Bool:=zqj ops B listed i As n||zn7 ops B listed i
def zfM (ops:Array Oper)(B:List Nat):Array Bool→List (Nat×List Nat)→Bool
 |listed,[]=>(Region.ready .any ops listed).isEmpty
 |listed,(i,As)::is=>zqk ops B listed i As is.length && zfM ops B (listed.setIfInBounds i true) is
theorem zfN (hK:zhV K):∀(is:List (Nat×List Nat)) (listed:Array Bool) (σ:St),zfM ops B listed is=true→Closed ops listed→zh2 P N ops B K is σ→zkN P N ops B K is.length listed σ
 | [],listed,σ,hok,_,h=>⟨by simpa [zfM] using hok,h⟩
 |(i,As)::is,listed,σ,hok,hcl,⟨o,ho,hs,⟨hAs,hga⟩,hop⟩=>by
  simp only [zfM,Bool.and_eq_true,zqk,Bool.or_eq_true] at hok
  obtain ⟨hok,hok'⟩:=hok
  rcases hok with hok|hok
  ·simp only [zqj,Bool.and_eq_true] at hok
   obtain ⟨⟨⟨⟨⟨q1,q2⟩,q3⟩,q4⟩,q5⟩,q6⟩:=hok
   have hi:i∈Region.ready .any ops listed:=by simpa using q1
   have hstr:As≠ []→strictOk P ops σ o false:=fun hne=>by
    have:B.contains i=false:=by
     rcases (Bool.or_eq_true ..).mp q4 with h|h
     ·exact absurd (by simpa using h) hne
     ·simpa using h
    rw[this] at hs;exact hs
   by_cases hne:As= []
   ·subst hne
    refine ⟨fun h=>(by rw[h] at hi;cases hi),fun j hj=>?_⟩
    have:=List.all_eq_true.1 q2 j hj
    simp at this
    subst this
    exact ⟨o,ho,hs,zey (fun σ' h=>zfN hK is _ σ' hok' (hcl.set hi) h) hop⟩
   ·refine zo1 hK ho is.length listed σ As (fun k hk=>?_) hi (fun k hk=>?_) (fun k hk l hl hkl ok ol hok hol=>?_) (of_decide_eq_true q3) (fun k hk hki hkA hun=>?_) hcl hs hstr (zey (fun σ' h=>zfN hK is _ σ' hok' (hcl.set hi) h) hop)
    ·have:=List.all_eq_true.1 q2 k hk
     simpa using this
    ·have:=List.all_eq_true.1 q5 k hk
     simp only [Bool.and_eq_true,bne_iff_ne,ne_eq] at this
     obtain ⟨⟨⟨t1,t2⟩,t3⟩,_⟩:=this
     refine ⟨by simpa using t1,t2,hAs k hk,fun ok hok=>?_⟩
     rw[hok,ho] at t3
     exact t3
    ·have:=List.all_eq_true.1 q5 k hk
     simp only [Bool.and_eq_true] at this
     have:=List.all_eq_true.1 this.2 l hl
     simp only [Bool.or_eq_true,beq_iff_eq,hkl,false_or,hok,hol,Bool.and_eq_true] at this
     exact this
    ·rcases (Bool.or_eq_true ..).mp q6 with h|h
     ·exact absurd (by simpa using h) hne
     ·have:=List.all_eq_true.1 h k (List.mem_range.2 hk)
      simp only [Bool.or_eq_true,beq_iff_eq,hki,false_or,hun,Bool.false_eq_true,or_false] at this
      rcases this with h|h
      ·exact absurd (by simpa using h) hkA
      ·exact h
  ·simp only [zn7,Bool.and_eq_true] at hok
   obtain ⟨hok,hww⟩:=hok
   simp only [zkK,Bool.and_eq_true] at hok
   obtain ⟨⟨⟨hf,hr⟩,hvo⟩,hB⟩:=hok
   simp only [ho,Option.map_some,Option.getD_some] at hvo
   have hi:i∈Region.ready .any ops listed:=by simpa using hr
   obtain ⟨v,hv,h⟩:=ValAt.of hvo hga hop
   refine zm3 hK ho is.length listed σ (fun j oj hj hne hun hno=>Region.free_spec ho hf j oj hj hne hun hno) (fun j hc hne hun=>?_) (fun j oj hj hne hun hw=>?_) hcl hi hv (zfN hK is _ _ hok' (hcl.set hi) h)
   ·have:=List.all_eq_true.1 hB j (by simpa using hc)
    simp only [hun,Bool.or_false,Bool.or_eq_true,beq_iff_eq,hne,false_or] at this
    exact this
   ·have:=List.all_eq_true.1 hww j (List.mem_range.2 (Array.getElem?_eq_some_iff.1 hj).1)
    simp only [hj,ho,hun,Bool.or_false,Bool.or_eq_true,beq_iff_eq,hne,false_or,hw,Bool.not_true,Bool.false_eq_true] at this
    rcases this with ((h|h)|h)|h
    ·exact .inl h
    ·exact .inr (.inl h)
    ·exact .inr (.inr (.inl ((Bool.and_eq_true ..).mp h)))
    ·exact .inr (.inr (.inr h))
end
section
variable {P:Program} {N:Nat} {w0:World} {S0:Env} {ops:Array Oper} {B:List Nat} {σ:St}
theorem Sim.eqv {β:Nat→Value}{τ:St}{a:Act}{w:World}(e:Eqv σ τ)(s:Sim P N w0 S0 β σ a w):Sim P N w0 S0 β τ a w:=by
 obtain ⟨h1,h1',h1'',h2,h3,h4,h5,h6,h7⟩:=s
 rw[e.2] at h1'' h2 h3 h4 h5
 exact ⟨h1,h1',h1'',h2,h3,h4,fun t=>by rw[←e.1 t];exact h5 t,h6,h7⟩
theorem zh3 {K:St→Prop}{Q:Exit→Act→World→Prop}(hQ:∀β σ a w,K σ→Sim P N w0 S0 β σ a w→Q .normal a w):∀(n:Nat) (listed:Array Bool) (β:Nat→Value) (σ:St) (a:Act) (w:World),zkN P N ops B K n listed σ→Sim P N w0 S0 β σ a w→wpAny P .any ops Q n listed a w
 |0,listed,β,σ,a,w,h,s=>⟨h.1,hQ β σ a w h.2 s⟩
 |n+1,listed,β,σ,a,w,h,s=>⟨fun hr=>hQ β σ a w (h.1 hr) s,fun i hi=>by
  obtain ⟨o,ho,_,hop⟩:=h.2 i hi
  have h1:=zsM (Q:=Q) s hop
  unfold wpOp
  simp only [ho]
  split at h1
  ·next hw=>rw[if_pos hw];exact .inl (Oper.wp_mono (fun a w ⟨β',σ',h2,h3⟩=>zh3 hQ n _ β' σ' a w h2 h3) h1)
  ·next hw=>
   rw[if_neg hw]
   obtain ⟨β',σ',h2,h3⟩:=h1
   exact zh3 hQ n _ β' σ' _ w h2 h3⟩
def zkO (ops:Array Oper)(B:List Nat)(is:List (Nat×List Nat)):Bool:=zfM ops B (Array.replicate ops.size false) is && is.length==ops.size
theorem zql {id:Nat}{l:List Oper}{Q:Exit→St→Prop}(hm:P.follows .mixedOrders=true)(B:List Nat)(is:List (Nat×List Nat))(hok:zkO l.toArray B is=true)(h:zh2 P N l.toArray B (Q .normal) is σ):AWp P N w0 S0 (.region id l.toArray true) Q σ:=fun β a w s=>by
 simp only [zkO,Bool.and_eq_true,beq_iff_eq] at hok
 have hK:zhV fun σ=>∃τ,Eqv τ σ∧Q .normal τ:=fun σ τ e ⟨υ,h1,h2⟩=>⟨υ,h1.trans e,h2⟩
 have h':zh2 P N l.toArray B (fun σ=>∃τ,Eqv τ σ∧Q .normal τ) is σ:=by
  clear hok s
  revert h
  generalize l.toArray=ops
  induction is generalizing σ with
  |nil=>exact fun h=>⟨σ,Eqv.refl σ,h⟩
  |cons i is ih=>exact fun ⟨o,ho,hs,hA,hop⟩=>⟨o,ho,hs,hA,zey (fun σ' h=>ih h) hop⟩
 have hcl:Closed l.toArray (Array.replicate l.toArray.size false):=fun j o ho hl=>by
  rw[Array.getD_eq_getD_getElem?,Array.getElem?_replicate] at hl
  split at hl<;>cases hl
 have h1:=zfN hK is _ σ hok.1 hcl h'
 rw[hok.2] at h1
 refine wp_region_any hm (zh3 (fun β σ a w ⟨τ,e,hq⟩ s=>⟨β,τ,hq,s.eqv e.symm⟩) _ _ β σ a _ h1 (s.grow (w':=w.drew) ?_).1)
 exact (Ext.refl w).drew
end
section
variable {P:Program} {N:Nat} {ops:Array Oper} {B:List Nat} {σ:St} {i:Nat} {As:List Nat} {o:Oper} {is:List (Nat×List Nat)} {K:St→Prop}
variable (P N ops B σ i o is K) in
def VS (d:Option Tmp):Option Av→Prop
 |some x=>zh2 P N ops B K is (σ.put d x)
 |none=>match Ze P σ o with
  |some σ'=>zh2 P N ops B K is σ'
  |none=>(B.contains i=true∨(Zu o.op=true∧zhZ P σ o))∧zbD P σ o fun σ'=>zh2 P N ops B K is σ'
variable (P N ops B σ i o is K) in
def GS:Option Bool→Prop
 |some true=>Zd N o=true∧VS P N ops B σ i o is K o.dst (zJ P σ o)
 |some false=>Zd N o=true∧zh2 P N ops B K is (σ.put o.dst (.tup []))
 |none=>False
variable (P N ops σ o) in
def zsV:List Nat→Prop
 | []=>ziZ ops σ o=true
 |k::As=>(∃p q,nth ops.toList k=some p∧isW p.op=true∧p.guard=none∧Zd N p=true∧Zy P σ p=some q∧zuT P σ p o q)∧zsV As
theorem zgq:∀{As:List Nat},zsV P N ops σ o As→(∀k∈As,AOk P N ops σ o k)∧ziZ ops σ o=true
 | [],h=>⟨fun k hk=>(by cases hk),h⟩
 |j::As,⟨⟨p,q,h1,h2⟩,h⟩=>⟨fun k hk=>by
  rcases List.mem_cons.1 hk with rfl|hk
  ·exact ⟨p,q,ZQ h1,h2⟩
  ·exact (zgq h).1 k hk,(zgq h).2⟩
theorem zxS {g:Option Bool}(ho:nth ops.toList i=some o)(hA:zsV P N ops σ o As)(hg:zW ops σ o=g)(h:GS P N ops B σ i o is K g):zh2 P N ops B K ((i,As)::is) σ:=by
 refine ⟨o,ZQ ho,?_⟩
 unfold strictOk opA zjv
 rw[hg]
 cases g with
 |none=>exact h.elim
 |some g=>
  cases g with
  |false=>exact ⟨.inr (.inl rfl),zgq hA,fun e=>(by cases e),fun _=>h⟩
  |true=>
   obtain ⟨hd,h⟩:=h
   cases hv:zJ P σ o with
   |some r=>rw[hv] at h;exact ⟨.inr (.inr (.inl rfl)),zgq hA,fun _=>⟨hd,h⟩,fun e=>(by cases e)⟩
   |none=>
    rw[hv] at h
    simp only [VS] at h
    cases hw:Ze P σ o with
    |some σ'=>
     rw[hw] at h
     refine ⟨.inr (.inr (.inr (.inl ?_))),zgq hA,fun _=>⟨hd,h⟩,fun e=>(by cases e)⟩
     cases hW:isW o.op with
     |true=>rfl
     |false=>rw[zbw hW] at hw;cases hw
    |none=>
     rw[hw] at h
     refine ⟨?_,zgq hA,fun _=>⟨hd,h.2⟩,fun e=>(by cases e)⟩
     rcases h.1 with h1|h1
     ·exact .inl h1
     ·exact .inr (.inr (.inr (.inr h1)))
end
end Go.Smd
end
