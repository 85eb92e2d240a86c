/- Part 25. -/
import Derived.Test.YtdgnolbdcmgfoaaGreatQD24
import Derived.Test.YtdgnolbdcmgfoaaGreatQD01
import Derived.Lib.AppendZerosOnto
import Derived.Laws.CopyRow
import Derived.Shelf.RegionOpenPlain
import Derived.Test.YtdgnolbdcmgfoaaGreatQD08
set_option linter.unusedVariables false
set_option linter.unusedSimpArgs false
set_option maxRecDepth 100000
set_option maxHeartbeats 8000000
section
namespace Go.Smd
open Go.RowKit Go.Proofs Go.Proofs.Tryz
theorem zop {n:Nat}(hn:n≤9223372036854775807):zH prog (convert 3 317 (.int .i64 n))=some (.c (.d (.v (.int .u64 n)))):=by
 have h:zn prog (convert 3 317 (.int .i64 n))=some (.int .u64 n):=by
  have hw:IntKind.u64.wrap (n:Int)=(n:Int):=by simp [IntKind.wrap,IntKind.bits,IntKind.signed];omega
  simp [convert,underlying,program,bind,Sem.bind,zn,pure,Conv.intToInt,hw]
 unfold zH;rw[h];simp [z7,Z7];omega
theorem zoq {n:Nat}(hn:n≤9223372036854775807):zH prog (convert 317 3 (.int .u64 n))=some (.c (.d (.v (.int .i64 n)))):=by
 have h:zn prog (convert 317 3 (.int .u64 n))=some (.int .i64 n):=by
  have hw:IntKind.wrap .i64 (n:Int)=(n:Int):=by rw[zq]<;>omega
  simp [convert,underlying,program,bind,Sem.bind,zn,pure,Conv.intToInt,hw]
 unfold zH;rw[h];simp [z7,Z7];omega
theorem zuq {P:Program}{T:TypeId}{ox oy:Operand}{n:Nat}(h:n≤9223372036854775807):ZH P .shr T ox oy (.c (.d (.v (.int .u64 n)))) (.c (.d (.v (.int .u64 1))))=some (.c (.d (.v (.int .u64 ((n / 2:Nat):Int))))):=by
 have hs:zn P (Op.shift .shr .u64 (n:Int) .u64 1)=some (.int .u64 ((n / 2:Nat):Int)):=by
  simp [Op.shift,zn,pure,Sem.bind,bind,IntKind.bits]
  rw[Int.fdiv_eq_ediv_of_nonneg _ (by decide)]
  first|done|rfl
 simp [ZH,zH,eqGuard,binOp,pure,Sem.bind,bind,zn,z7,Z7,hs]
 omega
structure Bound (L:List LE) (e:LE) (p:Nat):Prop where
 le:p≤L.length
 lo:∀(j:Nat) (h:j<L.length),j<p→ZM L[j] e<0
 hi:∀(j:Nat) (h:j<L.length),p≤j→0≤ZM L[j] e
def znt (L:List LE)(e:LE)(p:Nat):Prop:=∃x,L[p]? =some x∧ZM x e=0
theorem zgA (g:FuncId)(L:List LE)(e:LE)(p:Nat)(fd:Bool)(hl:L.length*32≤140737488351232)(hg:∀x∈L,ACalls prog g [leA x,leA e] (fun r=>r=aI (ZM x e)))(hB:Bound L e p)(hf:fd=true↔znt L e p):
  ACalls prog 201 [.c (.d (zal L)),leA e,.c (.d (.v (.func (.func g) #[] #[])))] (fun r=>r= .tup [(false,[.d (dI p)]),(false,[.d (dB fd)])]):=by
 obtain ⟨E,hE⟩:∃E,E=leD e:=⟨_,rfl⟩
 have hEl:E.length=4:=by rw[hE];cases e<;>rfl
 obtain ⟨e0,e1,e2,e3,he⟩:∃e0 e1 e2 e3,E= [e0,e1,e2,e3]:=by
  match E,hEl with
  | [a,b,c,d],_=>exact ⟨a,b,c,d,rfl⟩
 have eA:leA e= .agg [.d e0,.d e1,.d e2,.d e3]:=by
  show Av.agg (cls (leD e))=_
  rw[←hE,he];rfl
 rw[eA] at hg ⊢
 clear hE hEl
 have b1:L.length≤9223372036854775807:=by omega
 refine zf [(5,([6],[(0,[]),(1,[]),(2,[]),(3,[]),(4,[]),(5,[]),(6,[]),(7,[])])),(8,([],[(0,[]),(1,[]),(2,[]),(3,[]),(4,[]),(5,[]),(6,[]),(7,[]),(8,[]),(9,[]),(10,[]),(11,[]),(12,[]),(13,[]),(14,[]),(15,[])]))] func201 (by kernel_rfl) rfl ntmps201 results201 (Nat.le_of_ble_eq_true (by kernel_rfl)) ?_;intro hok w0 S0
 clear hok
 (repeat' (first|(with_reducible first|refine zj (fun _=>?_) (fun _=>?_)|refine zi (fun _=>?_) (fun _=>?_)|refine zk zb (by kernel_rfl) ?_|exact za rfl)|(simp -dsimp [b1])));(all_goals try with_reducible refine za ?_)
 refine zF (fun x:Nat×Nat=>⟨[(0,.c (.d (zal L))),(2,.c (.d (.v (.func (.func g) #[] #[])))),(4,.c (.own 4 0)),(8,aI L.length),(9,aI x.1),(10,aI x.2)],[(4,.cells [.d e0,.d e1,.d e2,.d e3] 101)]⟩) (fun x=>x.1≤p∧p≤x.2∧x.2≤L.length) (fun x=>x.2 - x.1) (0,L.length) ?_ ⟨Nat.zero_le _,hB.le,Nat.le_refl _⟩ ?_
 ·exact Weak.same (by simp -dsimp) (by simp -dsimp) (by first|rfl|(simp [zg,Av.ids,Ow.ids,Cl.ids,Go.Smd.keys];done))
 ·rintro ⟨lo,hi⟩ ⟨h1,h2,h3⟩ K hK
  dsimp only at h1 h2 h3 ⊢
  by_cases hlt:lo<hi
  ·obtain ⟨m,hm⟩:∃m,m=(lo+hi) / 2:=⟨_,rfl⟩
   have hml:m<L.length:=by omega
   obtain ⟨s,hs⟩:∃s:Nat,(lo:Int)+(hi:Int)=(s:Int):=⟨lo+hi,by omega⟩
   have c1:=zop (n:=s) (by omega)
   have c2:=zoq (n:=m) (by omega)
   have c3:∀{T:TypeId} {ox oy:Operand},ZH prog .shr T ox oy (.c (.d (.v (.int .u64 (s:Int))))) (.c (.d (.v (.int .u64 1))))=some (.c (.d (.v (.int .u64 (m:Int))))):=by
    have e:m=s / 2:=by omega
    intro T ox oy;rw[e];exact zuq (n:=s) (by omega)
   have hw:IntKind.wrap .i64 (s:Int)=(s:Int):=by rw[zq]<;>omega
   have hw2:IntKind.wrap .i64 ((m:Int)+1)=((m+1:Nat):Int):=by rw[zq]<;>omega
   have hx:=hg _ (List.getElem_mem hml)
   by_cases hc:ZM L[m] e<0
   ·(repeat' (first|(with_reducible first|refine zj (fun _=>?_) (fun _=>?_)|refine zi (fun _=>?_) (fun _=>?_)|refine zl (hx) (by first|rfl|(simp -dsimp [b1,hlt,hs,c1,c2,c3,hw,hw2,hml,hc];done)) ?_|(refine zx (hx) rfl ?_ ?_ ?_;iterate 2 exact by first|rfl|(simp -dsimp [b1,hlt,hs,c1,c2,c3,hw,hw2,hml,hc];done))|refine zk zb (by kernel_rfl) ?_|exact za rfl)|(simp -dsimp [b1,hlt,hs,c1,c2,c3,hw,hw2,hml,hc])));(all_goals try with_reducible refine za ?_)
    refine hK _ (m+1,hi) ?_ ⟨?_,h2,h3⟩ (by dsimp only;omega)
    ·exact Weak.same (by simp -dsimp) (by simp -dsimp) (by first|rfl|(simp [zg,Av.ids,Ow.ids,Cl.ids,Go.Smd.keys];done))
    ·dsimp only
     apply Classical.byContradiction
     intro hn
     have:=hB.hi m hml (by omega);omega
   ·(repeat' (first|(with_reducible first|refine zj (fun _=>?_) (fun _=>?_)|refine zi (fun _=>?_) (fun _=>?_)|refine zl (hx) (by first|rfl|(simp -dsimp [b1,hlt,hs,c1,c2,c3,hw,hw2,hml,hc];done)) ?_|(refine zx (hx) rfl ?_ ?_ ?_;iterate 2 exact by first|rfl|(simp -dsimp [b1,hlt,hs,c1,c2,c3,hw,hw2,hml,hc];done))|refine zk zb (by kernel_rfl) ?_|exact za rfl)|(simp -dsimp [b1,hlt,hs,c1,c2,c3,hw,hw2,hml,hc])));(all_goals try with_reducible refine za ?_)
    refine hK _ (lo,m) ?_ ⟨h1,?_,by dsimp only;omega⟩ (by dsimp only;omega)
    ·exact Weak.same (by simp -dsimp) (by simp -dsimp) (by first|rfl|(simp [zg,Av.ids,Ow.ids,Cl.ids,Go.Smd.keys];done))
    ·dsimp only
     apply Classical.byContradiction
     intro hn
     exact hc (hB.lo m hml (by omega))
  ·have e1:lo=p:=by omega
   have e2:hi=p:=by omega
   subst e1;subst e2
   by_cases hpl:hi<L.length
   ·have hx:=hg _ (List.getElem_mem hpl)
    have hf2:fd=decide (ZM L[hi] e=0):=by
     rw[Bool.eq_iff_iff,hf,decide_eq_true_eq]
     exact ⟨fun ⟨x,h5,h6⟩=>(by rw[List.getElem?_eq_getElem hpl] at h5;cases h5;exact h6),fun h5=>⟨_,List.getElem?_eq_getElem hpl,h5⟩⟩
    by_cases hc:ZM L[hi] e=0
    ·(repeat' (first|(with_reducible first|refine zj (fun _=>?_) (fun _=>?_)|refine zi (fun _=>?_) (fun _=>?_)|refine zl (hx) (by first|rfl|(simp -dsimp [b1,hlt,hpl,hc];done)) ?_|(refine zx (hx) rfl ?_ ?_ ?_;iterate 2 exact by first|rfl|(simp -dsimp [b1,hlt,hpl,hc];done))|refine zk zb (by kernel_rfl) ?_|exact za rfl)|(simp -dsimp [b1,hlt,hpl,hc])));(all_goals try with_reducible refine za ?_)
     rw[hf2];simp [hc]
    ·(repeat' (first|(with_reducible first|refine zj (fun _=>?_) (fun _=>?_)|refine zi (fun _=>?_) (fun _=>?_)|refine zl (hx) (by first|rfl|(simp -dsimp [b1,hlt,hpl,hc];done)) ?_|(refine zx (hx) rfl ?_ ?_ ?_;iterate 2 exact by first|rfl|(simp -dsimp [b1,hlt,hpl,hc];done))|refine zk zb (by kernel_rfl) ?_|exact za rfl)|(simp -dsimp [b1,hlt,hpl,hc])));(all_goals try with_reducible refine za ?_)
     rw[hf2];simp [hc]
   ·have hf2:fd=false:=by
     rw[Bool.eq_false_iff]
     intro h5
     obtain ⟨x,h6,_⟩:=hf.1 h5
     have:=(List.getElem?_eq_some_iff.1 h6).1
     omega
    (repeat' (first|(with_reducible first|refine zj (fun _=>?_) (fun _=>?_)|refine zi (fun _=>?_) (fun _=>?_)|refine zk zb (by kernel_rfl) ?_|exact za rfl)|(simp -dsimp [b1,hlt,hpl])));(all_goals try with_reducible refine za ?_)
    rw[hf2]
end Go.Smd
end
section
namespace Go.Smd
open Go.RowKit
section
variable {P:Program}
theorem zaE (w:World)(dT sT ty elem:TypeId)(size g o dLen dCap:Nat)(a:Addr)(sLen sCap:Nat)(cur:Array Value)(t:TypeId)(cs:List Value)
  (hu:P.underlying dT=some (.slice elem)) (hs:(P.info? elem).map (·.size)=some size)
  (hg:w.heap[g]? =some (.cells cur t (0,0))) (hn:cs.length=Nat.min sLen dLen*size)
  (hsrc:∀j v,cs[j]? =some v→w.cell? (a.add j)=some v) (hfit:o+cs.length≤cur.size) (h1:∀v∈cs,v.oneCell'=true):
  (Builtin.copy_ #[dT,sT] ty #[.slice (some ⟨g,o,none⟩) dLen dCap,.slice (some a) sLen sCap]).run P w=
   .ok (goInt (Nat.min sLen dLen)) (w.setRow g (cur.toList.take o++cs++cur.toList.drop (o+cs.length)).toArray):=by
 have hl:=run_loadCells_list (P:=P) w a cs hsrc
 have hst:=run_storeCells_at P g o t cs 0 cur w hg (by simpa using hfit) h1
 cases hq:P.info? elem with
 |none=>simp [hq] at hs
 |some i=>
  have hi:i.size=size:=by simpa [hq] using hs
  simp [Builtin.copy_,run_underlying hu,Builtin.lenOf,Builtin.firstCells,sizeOf,typeInfo,hq,hi,←hn,hl,hst]
theorem zeI (w:World)(tS tR e:TypeId)(ht:P.underlying tS=some (.slice e))(size:Nat)(hz:∀w,(Go.sizeOf e).run P w= .ok size w)
  (a b:Addr) (la ca lb cb:Nat) (hne:a.block≠b.block) {u:Value} (hsa:w.cell? a=some u) {cur:Array Value} {tB:TypeId} (hsb:w.heap[b.block]? =some (.cells cur tB (0,0))) (hk:cur.size≠0):
  (Extern.SlicesOverlaps.overlaps #[tS,tS] #[tR] #[.slice (some a) la ca,.slice (some b) lb cb]).run P w= .ok (.bool false) w:=by
 have hnb:(a.block !=b.block)=true:=by simpa using hne
 have hnb':(a.block==b.block)=false:=by simpa using hne
 change Sem.run P (α:=Value) (do
  let some t:=(#[tS,tS]:Array TypeId)[0]? |stuck "slices.overlaps: no parameter types"
  let .slice elem ←underlying t|stuck "slices.overlaps: slice type expected"
  let size ←sizeOf elem
  match (some a:Option Addr),(some b:Option Addr) with
  |some a,some b=>
   if la=0∨lb=0∨size=0 then pure (Value.bool false)
   else if a.block !=b.block && (←frozen a) && (←frozen b) then unsupported .addressObserved
   else do
    if a.block !=b.block then do
     noView a;noView b
     if ←mayBeOne a b then return Value.bool ((←choose (.extern "sameAddr.stringBytes" 2))==1)
    pure (Value.bool (a.block==b.block && a.off<b.off+lb*size && b.off<a.off+la*size))
  |_,_=>pure (Value.bool false)) w=_
 obtain ⟨ca',tA,fr,hha,hoff⟩:∃c t fr,w.heap[a.block]? =some (.cells c t fr)∧c.size≠0:=by
  unfold World.cell? at hsa
  split at hsa
  ·next c t fr hh=>
   refine ⟨c,t,fr,hh,fun h0=>?_⟩
   split at hsa
   ·cases hsa
   ·have:=(Array.getElem?_eq_some_iff.1 hsa).1;omega
  ·cases hsa
 have s1:w.shape? a.block=some (tA,ca'.size):=by simp [World.shape?,hha]
 have s2:w.shape? b.block=some (tB,cur.size):=by simp [World.shape?,hsb]
 have f1:∀o,w.frozen? ⟨b.block,o,none⟩=false:=fun o=>by simp [World.frozen?,hsb]
 have f2:w.frozen? b=false:=by simp [World.frozen?,hsb]
 by_cases h0:la=0∨lb=0∨size=0
 ·simp [run_underlying ht,hz,h0]
 ·obtain ⟨k,hkk⟩:∃k,ca'.size=k+1:=⟨ca'.size - 1,by omega⟩
  obtain ⟨m,hmm⟩:∃m,cur.size=m+1:=⟨cur.size - 1,by omega⟩
  rw[hkk] at s1
  rw[hmm] at s2
  cases hfa:w.frozen? a<;>simp [run_underlying ht,hz,h0,hnb,hnb',frozen,noView,viewAt,mayBeOne,stringish,shape,Sem.run,s1,s2,f1,f2,hfa]
end
section
variable {α:Type} {R:α→List Value→Prop} {size:Nat} {xs:List α} {cs:List Value}
theorem Elems.take (h:Elems R size xs cs)(n:Nat):Elems R size (xs.take n) (cs.take (n*size)):=by
 refine ⟨?_,fun j x hj=>?_⟩
 ·rw[List.length_take,List.length_take,h.1]
  rcases Nat.le_total n xs.length with hn|hn
  ·rw[Nat.min_eq_left hn,Nat.min_eq_left (Nat.mul_le_mul_right _ hn)]
  ·rw[Nat.min_eq_right hn,Nat.min_eq_right (Nat.mul_le_mul_right _ hn)]
 ·rw[List.getElem?_take] at hj
  split at hj
  ·next hjn=>
   have:=h.2 j x hj
   rw[List.drop_take,List.take_take,Nat.min_eq_left]
   ·exact this
   ·have:(j+1)*size≤n*size:=Nat.mul_le_mul_right _ hjn
    rw[Nat.add_mul] at this;omega
  ·cases hj
theorem Elems.drop (h:Elems R size xs cs)(n:Nat):Elems R size (xs.drop n) (cs.drop (n*size)):=by
 refine ⟨?_,fun j x hj=>?_⟩
 ·rw[List.length_drop,List.length_drop,h.1,Nat.sub_mul]
 ·rw[List.getElem?_drop] at hj
  have:=h.2 _ x hj
  rw[List.drop_drop,←Nat.add_mul]
  exact this
theorem zmh {β:Type}{cur cs ys:List β}{a s m:Nat}(htake:cur.take (a+m)=cs)(hcl:cs.length=a+m)(hsm:s≤m)(hy:ys.length=s):
  (((cur.take (a+s)++cs.drop a)++cur.drop (a+s+(cs.drop a).length)).take a++ys++((cur.take (a+s)++cs.drop a)++cur.drop (a+s+(cs.drop a).length)).drop (a+ys.length)).take (a+m+s)=cs.take a++(ys++cs.drop a):=by
 have hc:a+m≤cur.length:=by
  have:=congrArg List.length htake
  rw[List.length_take,hcl] at this;omega
 have l1:(cur.take (a+s)).length=a+s:=by rw[List.length_take];omega
 have e1:((cur.take (a+s)++cs.drop a)++cur.drop (a+s+(cs.drop a).length)).take a=cs.take a:=by
  rw[List.append_assoc,List.take_append_of_le_length (by omega),List.take_take,Nat.min_eq_left (by omega),←htake,List.take_take,Nat.min_eq_left (by omega)]
 have e2:((cur.take (a+s)++cs.drop a)++cur.drop (a+s+(cs.drop a).length)).drop (a+ys.length)=cs.drop a++cur.drop (a+s+(cs.drop a).length):=by
  rw[List.append_assoc,hy]
  exact List.drop_left' l1
 rw[e1,e2,←List.append_assoc,List.append_assoc (cs.take a)]
 refine List.take_left' ?_
 simp only [List.length_append,List.length_take,List.length_drop,hcl,hy]
 omega
theorem zj3 {β:Type}{row cs ys c1:List β}{a s m:Nat}(htake:row.take a=cs.take a)(hrl:a+s+m≤row.length)(hcl:cs.length=a+m)(hy:ys.length=s)(hc1:c1=row.take a++ys++row.drop (a+ys.length)):
  (c1.take (a+s)++cs.drop a++c1.drop (a+s+(cs.drop a).length)).take (a+m+s)=cs.take a++(ys++cs.drop a):=by
 have l1:(row.take a++ys).length=a+s:=by rw[List.length_append,List.length_take,hy];omega
 have e1:c1.take (a+s)=row.take a++ys:=by rw[hc1];exact List.take_left' l1
 rw[e1,htake,List.append_assoc (cs.take a)]
 refine List.take_left' ?_
 simp only [List.length_append,List.length_take,List.length_drop,hcl,hy]
 omega
def zS (i:Nat)(y:α)(xs:List α):List α:=xs.take i++y::xs.drop i
theorem ZV (i:Nat)(y:α)(xs:List α):(zS i y xs).length=xs.length+1:=by
 unfold zS
 simp only [List.length_append,List.length_take,List.length_cons,List.length_drop]
 omega
theorem Elems.ins {y:α}{ys:List Value}(h:Elems R size xs cs)(i:Nat)(hy:R y ys)(hl:ys.length=size):Elems R size (zS i y xs) (cs.take (i*size)++(ys++cs.drop (i*size))):=
 (h.take i).app ((Elems.one hy hl).app (h.drop i))
end
end Go.Smd
end
section
namespace Go.Smd
open Go.RowKit Go.Proofs Go.Proofs.Tryz
theorem ziz {P:Program}{t t' e e' ty:TypeId}(ht:P.underlying t=some (.slice e))(ht':P.underlying t'=some (.slice e')){i:TypeInfo}(hi:P.info? e=some i)(w:World)(v x:Value):(Builtin.append_ #[t,t'] ty #[v,x]).run P w=(Builtin.append_ #[t,t] ty #[v,x]).run P w:=by
 unfold Builtin.append_
 cases v<;>simp [run_underlying ht,run_underlying ht',sizeOf,typeInfo,hi]
theorem zaL {P:Program}{ops:Array Oper}{rest:List Oper}{o:Oper}{a:Act}{Q:Exit→Act→World→Prop}{w w':World}{s x:Operand}{t t':TypeId}{v xv v':Value}
  (hrun:(Builtin.append_ #[t,t'] o.type #[v,xv]).run P w= .ok v' w') (hgd:o.guard=none) (ho:o.op= .call { callee:=.builtin .append,args:= #[s,x],argTypes:= #[t,t'] })
  (hs:a.eval s=v) (hx:a.eval x=xv) (h:wpList P ops Q rest (a.put o.dst v') w'):wpList P ops Q (o::rest) a w:=by
 refine wpList_plain hgd fun K hK=>?_
 unfold Oper.wp execOp
 simp only [ho,resolve,invoke,builtin,Sem.run_bind,Sem.run_pure,Result.andThen_ok,List.map_toArray,List.map_cons,List.map_nil,hs,hx,hrun]
 exact hK _ _ h
def zay (P:Program)(e size:Nat)(w:World)(v:Value)(n i:Nat)(cs ys:List Value)(en:Ending)(w':World):Prop:=
 ∃v',en= .returned v'∧w'.ownsRow 0 e size v' (n+1) (cs.take (i*size)++(ys++cs.drop (i*size)))∧w.grownBy w' v.ownBlock∧(v'.ownBlock=v.ownBlock∨∃k,v'.ownBlock=some k∧w.heap.size≤k∧k<w'.heap.size)
theorem ztP (w:World)(v:Value)(n:Nat)(cs ys:List Value)(ad:Addr)(c:Nat)(hown:w.ownsRow 0 101 4 v n cs)(hy:ys.length=4)(hc:∀j u,ys[j]? =some u→w.cell? (ad.add j)=some u)(h1:∀u∈ys,u.oneCell'=true)(hn:(n+1)*32≤140737488351232):
  Calls prog 208 #[v,.int .i64 n,.slice (some ad) 1 c] w (zay prog 101 4 w v n n cs ys):=by
 obtain ⟨i0,hi,hz0⟩:=Option.map_eq_some_iff.1 (show (prog.info? 101).map (fun i=>(i.zero,i.size,i.bytes))=some (some (.agg #[.pointer none,.pointer none,.pointer none,.pointer none]),4,32) from by kernel_rfl)
 simp only [Prod.mk.injEq] at hz0
 obtain ⟨v',w',hr,hown',hg,_,hat⟩:=run_append_own_at (P:=prog) w 0 213 213 101 i0 _ 4 32 underlying213 hi hz0.1 hz0.2.1 hz0.2.2 rfl (by omega) v n cs hown ad 1 c ys (by simpa using hy) hc h1 (by simp only [maxLen];omega) (by omega) (Nat.zero_le _)
 rw[←ziz (t':=148) underlying213 underlying148 hi] at hr
 have HR:=Lib.hid hr
 have HO:Hid (zay prog 101 4 w v n n cs ys (.returned v') w'):=by
  refine ⟨v',rfl,?_,hg,hat.imp id fun h=>⟨_,h,Nat.le_refl _,(hown'.lt _ h).2⟩⟩
  have e1:cs.take (n*4)=cs:=List.take_of_length_le (by rw[hown.1];exact Nat.le_refl _)
  have e2:cs.drop (n*4)= []:=List.drop_of_length_le (by rw[hown.1];exact Nat.le_refl _)
  rw[e1,e2,List.append_nil]
  exact hown'
 obtain ⟨A,cap,hv,hle⟩:∃A cap,v= .slice A n cap∧n≤cap:=by
  rcases hown.2 with ⟨h1,h2⟩|⟨g,cap,cur,h1,_,_,h2,_⟩
  ·exact ⟨none,0,by rw[h1,h2],by omega⟩
  ·exact ⟨_,cap,h1,h2⟩
 subst hv
 clear hr hown' hg hat hc h1
 have hn2:n≤9223372036854775807:=by omega
 have u1:=run_underlying (P:=prog) underlying213
 have u2:=run_underlying (P:=prog) underlying148
 rcases Nat.eq_or_lt_of_le hle with he|he
 ·subst he
  go_enter func208,ntmps208
  go_wp2_with (at_builtin;refine zaL HR.out rfl rfl rfl rfl ?_)
  go_ret
  exact HO.out
 ·have hne:¬cap=n:=by omega
  go_enter func208,ntmps208
  go_wp2_with (at_builtin;refine zaL HR.out rfl rfl rfl rfl ?_)
  go_ret
  exact HO.out
theorem zea {P:Program}{ops:Array Oper}{o:Oper}{a:Act}{w:World}{K:Act→World→Prop}{Q:Exit→Act→World→Prop}{E:Prop}
  (hg:o.guard=none) (d x:Operand) (dT sT:TypeId) (hop:o.op=Op.call { callee:=Callee.builtin Builtin.copy,args:= #[d,x],argTypes:= #[dT,sT] })
  (v u:Value) (hd:a.eval d=v) (hx:a.eval x=u) {v':Value} {w':World} (hr:(Builtin.copy_ #[dT,sT] o.type #[v,u]).run P w= .ok v' w') (hK:K (a.put o.dst v') w'):
  if Region.wanted o (yielded ops a.tmps)=true then Oper.wp P o a w K Q else E:=by
 have hw:Region.wanted o (yielded ops a.tmps)=true:=by simp [Region.wanted,hg]
 rw[if_pos hw]
 unfold Oper.wp
 simp [execOp,hop,resolve,invoke,builtin,hd,hx,hr,Result.andThen]
 exact hK
theorem zb6 {P:Program}{w:World}{ops:Array Oper}{rest:List Oper}{o:Oper}{a:Act}{Q:Exit→Act→World→Prop}{d s:Operand}{t t':TypeId}{v u:Value}{v':Value}{w':World}
  (hr:(Builtin.copy_ #[t,t'] o.type #[v,u]).run P w= .ok v' w') (hgd:o.guard=none)
  (ho:o.op= .call { callee:=.builtin .copy,args:= #[d,s],argTypes:= #[t,t'] }) (hd:a.eval d=v) (hs:a.eval s=u) (h:wpList P ops Q rest (a.put o.dst v') w'):wpList P ops Q (o::rest) a w:=by
 refine wpList_plain hgd fun K hK=>?_
 unfold Oper.wp execOp
 simp only [ho,resolve,invoke,builtin,Sem.run_bind,Sem.run_pure,Result.andThen_ok,List.map_toArray,List.map_cons,List.map_nil,hd,hs,hr]
 exact hK _ _ h
theorem zrF (w:World)(g cap n i:Nat)(cur:Array Value)(cs ys:List Value)(ad:Addr)(c:Nat)(hg:w.heap[g]? =some (.cells cur 101 (0,0)))(hcap:n+1≤cap)(hcm:cap≤maxLen)(hcs:cur.size=cap*4)(htake:cur.toList.take (n*4)=cs)(hcl:cs.length=n*4)(hi:i<n)
  (hy:ys.length=4) (hc:∀j u,ys[j]? =some u→w.cell? (ad.add j)=some u) (h1:∀u∈ys,u.oneCell'=true) (h1c:∀u∈cs,u.oneCell'=true) (hne:ad.block≠g):
  Calls prog 208 #[.slice (some ⟨g,0,none⟩) n cap,.int .i64 i,.slice (some ad) 1 c] w (zay prog 101 4 w (.slice (some ⟨g,0,none⟩) n cap) n i cs ys):=by
 have u1:=run_underlying (P:=prog) underlying213
 have u2:=run_underlying (P:=prog) underlying148
 have hn2:n≤9223372036854775806:=by unfold maxLen at hcm;omega
 have hcm2:cap≤9223372036854775807:=by unfold maxLen at hcm;omega
 have hz2:¬((i:Int)=(n:Int)):=by omega
 have hi2:i≤n:=by omega
 have hb2:¬(cap=i+1):=by omega
 have hb4:¬(cap=i):=by omega
 have hi3:(i:Int)≤(n:Int)+1:=by omega
 have hw1:IntKind.i64.wrap ((i:Int)+1)=(i:Int)+1:=by rw[IntKind.wrap_i64];omega
 have hw2:IntKind.i64.wrap ((n:Int)+1)=(n:Int)+1:=by rw[IntKind.wrap_i64];omega
 have htn:((i:Int)+1).toNat=i+1:=by omega
 have htn2:((n:Int)+1).toNat=n+1:=by omega
 have hroom:¬((cap:Int)<(n:Int)+1):=by omega
 have hb1:(0:Int)≤(i:Int)+1:=by omega
 have mixed:prog.follows .mixedOrders=true:=by kernel_rfl
 obtain ⟨u0,hu0⟩:∃u,ys[0]? =some u:=⟨_,List.getElem?_eq_getElem (by omega)⟩
 have hov:∀lb cb,(callFunc 233 #[.slice (some ad) 1 c,.slice (some ⟨g,(i+1)*4,none⟩) lb cb]).run prog w= .ok (.value (.bool false)) w:=fun lb cb=>by
  rw[run_callFunc_extern func233 (by kernel_rfl) (by kernel_rfl) (by kernel_rfl) (e:=Extern.SlicesOverlaps.overlaps #[148,148] #[4]) (by kernel_rfl),
   zeI w 148 4 101 underlying148 4 (fun _=>by first|rfl|kernel_rfl) ad ⟨g,(i+1)*4,none⟩ 1 c lb cb hne (by have:=hc 0 u0 hu0;simpa [Addr.add] using this) hg (by omega)]
  rfl
 have hi1:(i+1)*4≤n*4:=by omega
 have hdl:(cs.drop (i*4)).length=(n - i)*4:=by rw[List.length_drop,hcl,Nat.sub_mul]
 obtain ⟨c1,hc1⟩:∃c1,c1=(cur.toList.take ((i+1)*4)++cs.drop (i*4)++cur.toList.drop ((i+1)*4+(cs.drop (i*4)).length)).toArray:=⟨_,rfl⟩
 have hc1s:c1.size=cur.size:=by rw[hc1];simp [hcl];omega
 have hgd:w.drew.heap[g]? =some (.cells cur 101 (0,0)):=hg
 have hcsat:∀j u,cs[j]? =some u→w.cell? ⟨g,j,none⟩=some u:=fun j u hj=>by
  refine zh hg ?_
  rw[←htake,List.getElem?_take] at hj
  split at hj
  ·simpa using hj
  ·cases hj
 have hcp1:∀ty dc sc,(Builtin.copy_ #[213,213] ty #[.slice (some ⟨g,(i+1)*4,none⟩) (n - i) dc,.slice (some ⟨g,i*4,none⟩) (n+1 - i) sc]).run prog w.drew=(.ok (goInt (Nat.min (n+1 - i) (n - i))) (w.drew.setRow g c1)):=fun ty dc sc=>by
  rw[hc1]
  exact zaE w.drew _ _ ty 101 4 g ((i+1)*4) _ dc ⟨g,i*4,none⟩ _ sc cur _ (cs.drop (i*4)) underlying213 (by kernel_rfl) hgd (by rw[hdl];congr 1;simp only [Nat.min_def];split<;>omega)
   (fun j v hj=>by
    rw[List.getElem?_drop] at hj
    have:=hcsat _ v hj
    have e:(⟨g,i*4,none⟩:Addr).add j=⟨g,i*4+j,none⟩:=by unfold Addr.add;split<;>simp_all
    rw[e];exact this) (by rw[hdl,hcs];omega) (fun v hv=>h1c v (List.mem_of_mem_drop hv))
 obtain ⟨c2,hc2⟩:∃c2,c2=(c1.toList.take (i*4)++ys++c1.toList.drop (i*4+ys.length)).toArray:=⟨_,rfl⟩
 have hcp2:∀ty dc,(Builtin.copy_ #[213,148] ty #[.slice (some ⟨g,i*4,none⟩) (n+1 - i) dc,.slice (some ad) 1 c]).run prog (w.drew.setRow g c1)= .ok (goInt (Nat.min 1 (n+1 - i))) ((w.drew.setRow g c1).setRow g c2):=fun ty dc=>by
  rw[hc2]
  refine zaE (w.drew.setRow g c1) _ _ ty 101 4 g (i*4) _ dc ad 1 c c1 101 ys underlying213 (by kernel_rfl) (setRow_heap _ g cur c1 _ _ hgd) (by rw[hy];simp only [Nat.min_def];split<;>omega)
   (fun j v hj=>?_) (by rw[hy,hc1s,hcs];omega) h1
  rw[World.cell?_of_block (w:=w)]
  ·exact hc j v hj
  ·rw[zB];exact setRow_other w.drew g ad.block c1 hne
 have HO:Hid (zay prog 101 4 w (.slice (some ⟨g,0,none⟩) n cap) n i cs ys (.returned (.slice (some ⟨g,0,none⟩) (n+1) cap)) ((w.drew.setRow g c1).setRow g c2)):=by
  refine ⟨_,rfl,⟨?_,.inr ⟨g,cap,c2,rfl,Nat.zero_le _,setRow_heap _ g c1 c2 _ _ (setRow_heap _ g cur c1 _ _ hgd),hcap,hcm,?_,?_⟩⟩,?_,.inl rfl⟩
  ·simp only [List.length_append,List.length_take,hcl,hy,hdl];omega
  ·rw[hc2];simp [hy,hc1s];omega
  ·have e1:(i+1)*4=i*4+4:=by omega
   have e2:(n+1)*4=i*4+(n - i)*4+4:=by omega
   have e3:n*4=i*4+(n - i)*4:=by omega
   rw[hc2,hc1,e1,e2]
   rw[e3] at htake hcl
   exact zmh htake hcl (by omega) hy
  ·exact ⟨rfl,rfl,rfl,by simp only [World.setRow,Array.size_modify];exact Nat.le_refl _,fun k _ hk=>(setRow_other _ g k c2 (fun e=>hk (by simp [Value.ownBlock,e]))).trans (setRow_other w.drew g k c1 (fun e=>hk (by simp [Value.ownBlock,e])))⟩
 have HP1:=Lib.hid hcp1;have HP2:=Lib.hid hcp2
 clear hc h1 h1c hg htake hcl hcp1 hcp2 hc1 hc2 hc1s hcsat hgd hdl hi1
 go_enter func208,ntmps208
 go_wp2_with (simp only [hov])
 go_region_law_o (refine zea rfl _ _ 213 213 rfl (.slice (some ⟨g,(i+1)*4,none⟩) (n - i) (cap - (i+1))) (.slice (some ⟨g,i*4,none⟩) (n+1 - i) (cap - i)) (by simp [Act.eval,Act.put]) (by simp [Act.eval,Act.put]) (HP1.out 3 (cap - (i+1)) (cap - i)) ?_)
 go_wp2_with (refine zb6 (HP2.out _ _) rfl rfl rfl rfl ?_)
 go_ret
 exact HO.out
theorem zrG (w:World)(g cap n i:Nat)(cur:Array Value)(cs ys:List Value)(ad:Addr)(c:Nat)(hg:w.heap[g]? =some (.cells cur 101 (0,0)))(hnc:n≤cap)(hcap:cap<n+1)(hcm:cap≤maxLen)(hcs:cur.size=cap*4)(htake:cur.toList.take (n*4)=cs)(hcl:cs.length=n*4)(hi:i<n)(hbytes:(n+1)*32≤140737488351232)
  (hy:ys.length=4) (hc:∀j u,ys[j]? =some u→w.cell? (ad.add j)=some u) (h1:∀u∈ys,u.oneCell'=true) (h1c:∀u∈cs,u.oneCell'=true) (hne:ad.block≠g):
  Calls prog 208 #[.slice (some ⟨g,0,none⟩) n cap,.int .i64 i,.slice (some ad) 1 c] w (zay prog 101 4 w (.slice (some ⟨g,0,none⟩) n cap) n i cs ys):=by
 have u1:=run_underlying (P:=prog) underlying213
 have u2:=run_underlying (P:=prog) underlying148
 have mixed:prog.follows .mixedOrders=true:=by kernel_rfl
 obtain ⟨i0,hin,hz0⟩:=Option.map_eq_some_iff.1 (show (prog.info? 101).map (fun i=>(i.zero,i.size,i.bytes))=some (some (.agg #[.pointer none,.pointer none,.pointer none,.pointer none]),4,32) from by kernel_rfl)
 simp only [Prod.mk.injEq] at hz0
 have hn2:n≤9223372036854775806:=by omega
 have hz2:¬((i:Int)=(n:Int)):=by omega
 have hi2:i≤n:=by omega
 have hb4:¬(cap=i):=by omega
 have hi3:(i:Int)≤(n:Int)+1:=by omega
 have hw1:IntKind.i64.wrap ((i:Int)+1)=(i:Int)+1:=by rw[IntKind.wrap_i64];omega
 have hw2:IntKind.i64.wrap ((n:Int)+1)=(n:Int)+1:=by rw[IntKind.wrap_i64];omega
 have hw3:IntKind.i64.wrap ((n:Int)+1 - i)=(n:Int)+1 - i:=by rw[IntKind.wrap_i64];omega
 have htn:((i:Int)+1).toNat=i+1:=by omega
 have hroom:(cap:Int)<(n:Int)+1:=by omega
 have hic:i≤cap:=by omega
 have hb1:(0:Int)≤(i:Int)+1:=by omega
 have hkk:(n:Int)+1 - (i:Int)=((n+1 - i:Nat):Int):=by omega
 have hik:i+(n+1 - i)=n+1:=by omega
 have hdl:(cs.drop (i*4)).length=(n - i)*4:=by rw[List.length_drop,hcl,Nat.sub_mul]
 have hcsat:∀j u,cs[j]? =some u→w.cell? ⟨g,j,none⟩=some u:=fun j u hj=>by
  refine zh hg ?_
  rw[←htake,List.getElem?_take] at hj
  split at hj
  ·simpa using hj
  ·cases hj
 have hold:(Builtin.firstCells i0.size i (.slice (some ⟨g,0,none⟩) i cap)).run prog w.drew= .ok (cs.take (i*4)).toArray w.drew:=by
  rw[hz0.2.1]
  exact run_firstCells_some w.drew 4 i ⟨g,0,none⟩ i cap (cs.take (i*4)) (by rw[List.length_take,hcl];omega) (fun j v hj=>by
   rw[List.getElem?_take] at hj
   split at hj
   ·have e:(⟨g,0,none⟩:Addr).add j=⟨g,j,none⟩:=by unfold Addr.add;split<;>simp_all
    rw[e];exact hcsat j v hj
   ·cases hj)
 obtain ⟨G,hG⟩:∃G,G=grownCap w (n+1) cap 101:=⟨_,rfl⟩
 obtain ⟨ROW,hROW⟩:∃ROW:Array Value,ROW=(cs.take (i*4)).toArray++Builtin.zeroCells (Value.agg #[.pointer none,.pointer none,.pointer none,.pointer none]).cells (n+1 - i)++Builtin.zeroCells (Value.agg #[.pointer none,.pointer none,.pointer none,.pointer none]).cells (G - (n+1)):=⟨_,rfl⟩
 have hGn:n+1≤G:=by rw[hG];exact grownCap_ge w _ _ _
 have hGm:G≤maxLen:=by rw[hG];exact grownCap_le_maxLen w (n+1) cap 101 (by simp only [maxLen];omega)
 have hG63:G≤9223372036854775807:=by unfold maxLen at hGm;omega
 have hrz:∀ty,(Builtin.append_ #[213,3] ty #[.slice (some ⟨g,0,none⟩) i cap,.int .i64 ((n:Int)+1 - (i:Int))]).run prog w=
   .ok (.slice (some ⟨w.heap.size,0,none⟩) (n+1) G) (w.drew.alloc (.cells ROW 101)):=fun ty=>by
  have h:=Go.Lib.run_append_grow_zeros w 213 3 ty 101 i0 _ .i64 .i64 underlying213 underlying3 hin hz0.1 (some ⟨g,0,none⟩) i cap (cs.take (i*4)) hold (n+1 - i) (by omega) (by rw[hz0.2.1];omega) (by omega) (by omega) (by rw[hz0.2.2];omega) (by rw[hz0.2.2,hik];exact growslice_fits (by omega) (by omega))
  rw[hik] at h
  rw[hkk,hROW,hG]
  exact h
 have hRs:ROW.size=G*4:=by
  rw[hROW]
  simp [Builtin.zeroCells,Value.cells,hcl]
  omega
 have hRt:ROW.toList.take (i*4)=cs.take (i*4):=by
  rw[hROW]
  simp only [Array.toList_append]
  rw[List.append_assoc]
  exact List.take_left' (by rw[List.length_take,hcl];omega)
 obtain ⟨W1,hW1⟩:∃W1,W1=w.drew.alloc (.cells ROW 101):=⟨_,rfl⟩
 rw[←hW1] at hrz
 have hB1:W1.heap[w.heap.size]? =some (.cells ROW 101 (0,0)):=by rw[hW1];exact heap_alloc_new w.drew _
 have hOld:∀k,k<w.heap.size→W1.heap[k]? =w.heap[k]? :=fun k hk=>by rw[hW1];exact heap_alloc_old w.drew _ hk
 have hgw:g<w.heap.size:=(Array.getElem?_eq_some_iff.1 hg).1
 obtain ⟨u0,hu0⟩:∃u,ys[0]? =some u:=⟨_,List.getElem?_eq_getElem (by omega)⟩
 have haw:ad.block<w.heap.size:=by have:=zdO (hc 0 u0 hu0);rwa[zB] at this
 obtain ⟨c1,hc1⟩:∃c1,c1=(ROW.toList.take (i*4)++ys++ROW.toList.drop (i*4+ys.length)).toArray:=⟨_,rfl⟩
 have hc1s:c1.size=ROW.size:=by rw[hc1];simp [hy];omega
 have hcp1:∀ty dc,(Builtin.copy_ #[213,148] ty #[.slice (some ⟨w.heap.size,i*4,none⟩) (n+1 - i) dc,.slice (some ad) 1 c]).run prog W1= .ok (goInt (Nat.min 1 (n+1 - i))) (W1.setRow w.heap.size c1):=fun ty dc=>by
  rw[hc1]
  exact zaE W1 _ _ ty 101 4 w.heap.size (i*4) _ dc ad 1 c ROW 101 ys underlying213 (by kernel_rfl) hB1 (by rw[hy];simp only [Nat.min_def];split<;>omega)
   (fun j v hj=>(World.cell?_of_block (by rw[zB];exact hOld _ haw)).trans (hc j v hj)) (by rw[hy,hRs];omega) h1
 obtain ⟨c2,hc2⟩:∃c2,c2=(c1.toList.take ((i+1)*4)++cs.drop (i*4)++c1.toList.drop ((i+1)*4+(cs.drop (i*4)).length)).toArray:=⟨_,rfl⟩
 have hB2:(W1.setRow w.heap.size c1).drew.heap[w.heap.size]? =some (.cells c1 101 (0,0)):=setRow_heap W1 w.heap.size ROW c1 _ _ hB1
 have hcp2:∀ty dc sc,(Builtin.copy_ #[213,213] ty #[.slice (some ⟨w.heap.size,(i+1)*4,none⟩) (n - i) dc,.slice (some ⟨g,i*4,none⟩) (n - i) sc]).run prog (W1.setRow w.heap.size c1).drew= .ok (goInt (Nat.min (n - i) (n - i))) ((W1.setRow w.heap.size c1).drew.setRow w.heap.size c2):=fun ty dc sc=>by
  rw[hc2]
  refine zaE (W1.setRow w.heap.size c1).drew _ _ ty 101 4 w.heap.size ((i+1)*4) _ dc ⟨g,i*4,none⟩ _ sc c1 101 (cs.drop (i*4)) underlying213 (by kernel_rfl) hB2 (by rw[hdl];congr 1;simp [Nat.min_def])
   (fun j v hj=>?_) (by rw[hdl,hc1s,hRs];omega) (fun v hv=>h1c v (List.mem_of_mem_drop hv))
  rw[List.getElem?_drop] at hj
  have:=hcsat _ v hj
  have e:(⟨g,i*4,none⟩:Addr).add j=⟨g,i*4+j,none⟩:=by unfold Addr.add;split<;>simp_all
  rw[e]
  refine (World.cell?_of_block ?_).trans this
  exact (setRow_other W1 w.heap.size g c1 (by omega)).trans (hOld g hgw)
 have HO:Hid (zay prog 101 4 w (.slice (some ⟨g,0,none⟩) n cap) n i cs ys (.returned (.slice (some ⟨w.heap.size,0,none⟩) (n+1) G)) ((W1.setRow w.heap.size c1).drew.setRow w.heap.size c2)):=by
  have hsz:W1.heap.size=w.heap.size+1:=by rw[hW1];exact zz w.drew _
  refine ⟨_,rfl,⟨?_,.inr ⟨w.heap.size,G,c2,rfl,Nat.zero_le _,setRow_heap _ w.heap.size c1 c2 _ _ hB2,hGn,hGm,?_,?_⟩⟩,⟨?_,?_,?_,?_,fun k hk _=>?_⟩,.inr ⟨w.heap.size,rfl,Nat.le_refl _,?_⟩⟩
  ·simp only [List.length_append,List.length_take,hcl,hy,hdl];omega
  ·rw[hc2];simp [hcl,hc1s,hRs];omega
  ·have e1:(i+1)*4=i*4+4:=by omega
   have e2:(n+1)*4=i*4+(n - i)*4+4:=by omega
   have e3:n*4=i*4+(n - i)*4:=by omega
   rw[hc2,e1,e2]
   rw[e3] at hcl
   exact zj3 (row:=ROW.toList) hRt (by simp [hRs];omega) hcl hy (by rw[hc1])
  ·rw[hW1];rfl
  ·rw[hW1];rfl
  ·rw[hW1];rfl
  ·show w.heap.size≤(World.setRow _ _ _).heap.size
   simp only [World.setRow,World.drew,Array.size_modify,hsz];omega
  ·exact ((setRow_other _ w.heap.size k c2 (by omega)).trans (setRow_other W1 w.heap.size k c1 (by omega))).trans (hOld k hk)
  ·show w.heap.size<(World.setRow _ _ _).heap.size
   simp only [World.setRow,World.drew,Array.size_modify,hsz];omega
 have HRZ:=Lib.hid hrz;have HP1:=Lib.hid hcp1;have HP2:=Lib.hid hcp2
 have hGi:¬(G=i):=by omega
 have hGi1:¬(G=i+1):=by omega
 clear hc h1 h1c hg htake hcl hcp1 hcp2 hc1 hc2 hc1s hcsat hdl hrz hRs hRt hROW hG hold hB1 hB2 hOld hW1 hin hz0 hkk hik
 go_enter func208,ntmps208
 go_wp2_with (first
  |(at_builtin;refine zaL (HRZ.out _) rfl rfl rfl rfl ?_)
  |(refine zb6 (HP1.out _ _) rfl rfl rfl rfl ?_))
 go_region_law_o (refine zea rfl _ _ 213 213 rfl (.slice (some ⟨w.heap.size,(i+1)*4,none⟩) (n - i) (G - (i+1))) (.slice (some ⟨g,i*4,none⟩) (n - i) (cap - i)) (by simp [Act.eval,Act.put]) (by simp [Act.eval,Act.put]) (HP2.out 3 (G - (i+1)) (cap - i)) ?_)
 go_wp2
 go_ret
 exact HO.out
theorem World.ownsRow.one {w:World}{e size:Nat}{v:Value}{n:Nat}{cs:List Value}(h:w.ownsRow 0 e size v n cs)(hn:0<n):∃g cap cur,v= .slice (some ⟨g,0,none⟩) n cap∧w.heap[g]? =some (.cells cur e (0,0))∧n≤cap∧cap≤maxLen∧cur.size=cap*size∧cur.toList.take (n*size)=cs:=by
 rcases h.2 with ⟨_,h0⟩|⟨g,cap,cur,h1,_,h2,h3,h4,h5,h6⟩
 ·omega
 ·exact ⟨g,cap,cur,h1,h2,h3,h4,h5,h6⟩
theorem zpA (w:World)(v:Value)(n i:Nat)(cs ys:List Value)(ad:Addr)(c:Nat)(hown:w.ownsRow 0 101 4 v n cs)(hi:i≤n)(hy:ys.length=4)(hc:∀j u,ys[j]? =some u→w.cell? (ad.add j)=some u)(h1:∀u∈ys,u.oneCell'=true)(h1c:∀u∈cs,u.oneCell'=true)(hne:v.ownBlock≠some ad.block)(hn:(n+1)*32≤140737488351232):
  Calls prog 208 #[v,.int .i64 i,.slice (some ad) 1 c] w (zay prog 101 4 w v n i cs ys):=by
 by_cases e:i=n
 ·subst e;exact ztP w v i cs ys ad c hown hy hc h1 hn
 ·obtain ⟨g,cap,cur,rfl,h2,h3,h4,h5,h6⟩:=World.ownsRow.one hown (by omega)
  have hne':ad.block≠g:=fun h=>hne (by rw[h];rfl)
  by_cases hr:n+1≤cap
  ·exact zrF w g cap n i cur cs ys ad c h2 hr h4 h5 h6 hown.1 (by omega) hy hc h1 h1c hne'
  ·exact zrG w g cap n i cur cs ys ad c h2 h3 (by omega) h4 h5 h6 hown.1 (by omega) hn hy hc h1 h1c hne'
theorem zj4 {P:Program}{S:Nat→Prop}{w:World}{k:Nat}{xs:List (List D)}{cs:List Value}(h:Elems (RDs P w S) k xs cs)(hk:0<k):∀u∈cs,u.oneCell'=true:=fun u hu=>by
 obtain ⟨q,hq,rfl⟩:=List.getElem_of_mem hu
 have hq':q<xs.length*k:=by rw[←h.1];exact hq
 have hd:q / k<xs.length:=(Nat.div_lt_iff_lt_mul hk).2 hq'
 have hr:=h.2 (q / k) xs[q / k] (List.getElem?_eq_getElem hd)
 have hmem:cs[q]∈(cs.drop (q / k*k)).take k:=by
  refine List.mem_of_getElem? (i:=q % k) ?_
  rw[List.getElem?_take,if_pos (Nat.mod_lt _ hk),List.getElem?_drop]
  have:q / k*k+q % k=q:=by rw[Nat.mul_comm];exact Nat.div_add_mod q k
  rw[this];exact List.getElem?_eq_getElem hq
 obtain ⟨x,_,hx⟩:=All2.mem hr _ hmem
 exact hx.one
theorem zrH {z z1:Nat}(hz:z≠z1)(ver k i:Nat)(xs:List (List D))(y:List D)(hi:i≤xs.length)(hn:(xs.length+1)*32≤140737488351232):
  AProc prog 208 [.c (.gs z ver),.c (.d (.v (.int .i64 i))),.c (.gs z1 k)]
   [(z,.arr ver 101 xs),(z1,.arr k 101 [y])]
   (fun r own'=>r= .c (.gs z (ver+1))∧own'= [(z,.arr (ver+1) 101 (zS i y xs)),(z1,.arr k 101 [y])]):=by
 refine ⟨⟨_,func208,by kernel_rfl,rfl⟩,fun w E β vs s ha=>?_⟩
 have c4:prog.cellsOf 101=4:=by kernel_rfl
 have c32:prog.bytesOf 101=32:=by kernel_rfl
 obtain ⟨v,_,rfl,a1,ha⟩:=ha.inv
 obtain ⟨n,_,rfl,a2,ha⟩:=ha.inv
 obtain ⟨u,_,rfl,a3,ha⟩:=ha.inv
 cases ha.inv0
 obtain ⟨rfl,_⟩:=ZL a2
 have q0:(St.mk [] [(z,.arr ver 101 xs),(z1,.arr k 101 [y])]).h z=some (.arr ver 101 xs):=by simp [St.h,zd]
 have q1:(St.mk [] [(z,.arr ver 101 xs),(z1,.arr k 101 [y])]).h z1=some (.arr k 101 [y]):=by simp [St.h,zd,hz]
 obtain ⟨_,_,_,h1,_,h3,_⟩:=a1
 have h1:=q0.symm.trans h1;cases h1
 obtain ⟨_,_,_,h4,_,h6,_⟩:=a3
 have h4:=q1.symm.trans h4;cases h4
 have hv:=h3 rfl
 have hu:=h6 rfl
 obtain ⟨hB,_,hl⟩:=s.own _ _ q0
 obtain ⟨hB1,_,hl1⟩:=s.own _ _ q1
 have hyl:y.length=4:=by rw[←c4];exact hl1 y (by simp)
 rw[c4] at hB hB1
 have hsl:=hB.slice
 obtain ⟨cs,ho,hbt,he⟩:=hB
 obtain ⟨ds,ho1,_,he1⟩:=hB1
 obtain ⟨g1,cap1,cur1,e1,e2,e3,_,e5,e6⟩:=World.ownsRow.one ho1 (by simp)
 have hne:(β z).ownBlock≠some g1:=fun h=>by
  have o0:occ (β z) (.arr ver 101 xs) g1:=Z5.2 (by
   obtain ⟨A,c,hs⟩:=hsl
   rw[hs] at h ⊢;exact h)
  exact hz (s.inj _ _ _ _ g1 q0 q1 o0 (Z5.2 (by rw[e1];rfl)))
 have hyd:RDs prog w (fun b=>Sd w E β (zd [(z,Ow.arr ver 101 xs),(z1,Ow.arr k 101 [y])]) w b∧(β z1).ownBlock≠some b) y ds:=by
  have:=he1.2 0 y rfl
  have hdl:ds.length=4:=by rw[ho1.1];rfl
  rwa[Nat.zero_mul,List.drop_zero,List.take_of_length_le (by omega)] at this
 have hdc:∀j u,ds[j]? =some u→w.cell? ((⟨g1,0,none⟩:Addr).add j)=some u:=fun j u hj=>by
  rw[zfE]
  refine zh e2 ?_
  have:(cur1.toList.take (1*4))[j]? =some u:=by rw[show cur1.toList.take (1*4)=ds from e6];exact hj
  rw[List.getElem?_take] at this
  split at this
  ·simpa using this
  ·cases this
 rw[hv,hu,e1]
 refine (zpA w (β z) xs.length i cs ds ⟨g1,0,none⟩ cap1 ho hi (by rw[ho1.1];rfl) hdc (fun u hu=>by obtain ⟨x,_,hx⟩:=All2.mem hyd u hu;exact hx.one) (zj4 he (by omega)) hne (by omega)).mono ?_
 rintro e w' ⟨v',rfl,hown',hg,hat⟩
 obtain ⟨A',c',hv'⟩:∃A c,v'= .slice A (xs.length+1) c:=by
  obtain ⟨g,cap,cur,h,_⟩:=World.ownsRow.one hown' (by omega)
  exact ⟨_,_,h⟩
 obtain ⟨A0,c0,hs0⟩:=hsl
 have hbk:∀{x:Value} {b:Nat},(∃A n c,x= .slice A n c)→(bk x=some b↔x.ownBlock=some b):=by
  rintro x b ⟨A,n,c,rfl⟩;rfl
 have hsame:Same (fun b=>Sd w E β (zd [(z,Ow.arr ver 101 xs),(z1,Ow.arr k 101 [y])]) w b) w w':=fun b hb=>hg.block b hb.2.1 fun h=>hb.2.2 z _ q0 (Z5.2 ((hbk ⟨_,_,_,hs0⟩).2 h.symm))
 obtain ⟨s1,_⟩:=s.write (id:=z) (o':=.arr (ver+1) 101 (zS i y xs)) (v':=v') (fun h=>by rw[q0] at h;cases h) (fun f xs h=>by rw[q0] at h;cases h) hg (fun b hb=>⟨_,q0,(hbk ⟨_,_,_,hs0⟩).2 hb⟩) (fun b hb=>by
   have hb':=(hbk ⟨_,_,_,hv'⟩).1 hb
   rcases hat with h|⟨k',h,h5,h6⟩
   ·exact .inl (by rw[←h];exact hb')
   ·rw[h] at hb';cases hb';exact .inr ⟨h5,h6⟩) (fun xs T h=>by rw[q0] at h;cases h) (fun ver2 E2 xs2 h=>by rw[q0] at h;cases h;exact ⟨_,_,_,rfl,by omega,fun h=>by omega⟩)
  fun hS kk=>by
   have kb:∀b,Sd w E β (zd [(z,Ow.arr ver 101 xs),(z1,Ow.arr k 101 [y])]) w b→v'.ownBlock≠some b:=fun b hb h=>
    (hS b hb).2.2 z _ (by rw[zt];exact if_pos rfl) (Z5.2 (by simp only [if_true];exact (hbk ⟨_,_,_,hv'⟩).2 h))
   have hEl:=Elems.ins (R:=RDs prog w' fun b=>Sd w E (fun i=>if i=z then v' else β i) ((St.mk [] [(z,.arr ver 101 xs),(z1,.arr k 101 [y])]).new z (.arr (ver+1) 101 (zS i y xs))).h w' b∧v'.ownBlock≠some b) (size:=4) (xs:=xs) (cs:=cs)
    (he.imp fun x c r=>(zr _).frame r (fun b hb=>hsame b hb.1) fun b hb=>⟨hS b hb.1,kb b hb.1⟩) i ((zr _).frame hyd (fun b hb=>hsame b hb.1) fun b hb=>⟨hS b hb.1,kb b hb.1⟩) (by rw[ho1.1];rfl)
   refine ⟨?_,?_,fun x hx=>?_⟩
   ·rw[c4]
    exact ⟨_,by rw[ZV];exact hown',fun _ _=>trivial,hEl⟩
   ·rw[ZV,c32];exact hn
   ·rw[c4]
    unfold zS at hx
    simp only [List.mem_append,List.mem_cons] at hx
    rw[←c4]
    rcases hx with hx|rfl|hx
    ·exact hl x (List.mem_of_mem_take hx)
    ·rw[c4];exact hyl
    ·exact hl x (List.mem_of_mem_drop hx)
 have eh:zd [(z,Ow.arr (ver+1) 101 (zS i y xs)),(z1,Ow.arr k 101 [y])]=((St.mk [] [(z,.arr ver 101 xs),(z1,.arr k 101 [y])]).new z (.arr (ver+1) 101 (zS i y xs))).h:=by
  rw[zt]
  funext j
  show (if z=j then some (Ow.arr (ver+1) 101 (zS i y xs)) else zd [(z1,Ow.arr k 101 [y])] j)=if j=z then some (Ow.arr (ver+1) 101 (zS i y xs)) else (if z=j then some (Ow.arr ver 101 xs) else zd [(z1,Ow.arr k 101 [y])] j)
  by_cases e:z=j
  ·rw[if_pos e,if_pos e.symm]
  ·rw[if_neg e,if_neg (Ne.symm e),if_neg e]
 refine ⟨v',_,_,_,rfl,⟨rfl,rfl⟩,Sim.eqv (σ:=(St.mk [] [(z,.arr ver 101 xs),(z1,.arr k 101 [y])]).new z (.arr (ver+1) 101 (zS i y xs))) ⟨fun _=>rfl,eh.symm⟩ s1,?_⟩
 rw[eh]
 exact ⟨ver+1,_,_,by rw[zt];exact if_pos rfl,Nat.le_refl _,fun _=>(if_pos rfl).symm,by rw[hv'];rfl⟩
theorem zrI (ver k i:Nat)(xs:List (List D))(y:List D)(hi:i≤xs.length)(hn:(xs.length+1)*32≤140737488351232):
  AProc prog 208 [.c (.gs 1000000000 ver),.c (.d (.v (.int .i64 i))),.c (.gs 1000000001 k)]
   [(1000000000,.arr ver 101 xs),(1000000001,.arr k 101 [y])]
   (fun r own'=>r= .c (.gs 1000000000 (ver+1))∧own'= [(1000000000,.arr (ver+1) 101 (zS i y xs)),(1000000001,.arr k 101 [y])]):=
 zrH (by decide) ver k i xs y hi hn
theorem zmi (p q:LE)(hp:ZR p)(hq:ZR q):ACalls prog 207 [leA p,leA q] (fun r=>r=aI (ZM p q)):=by
 have h:=zct p q hp hq
 have four:∀e:LE,∃e0 e1 e2 e3,leA e= .agg [.d e0,.d e1,.d e2,.d e3]:=fun e=>by cases e<;>exact ⟨_,_,_,_,rfl⟩
 obtain ⟨p0,p1,p2,p3,hp'⟩:=four p
 obtain ⟨q0,q1,q2,q3,hq'⟩:=four q
 rw[hp',hq'] at h ⊢
 refine zf [] func207 (by kernel_rfl) rfl ntmps207 results207 (Nat.le_of_ble_eq_true (by kernel_rfl)) ?_;intro hok w0 S0
 clear hok
 (repeat' (first|(with_reducible first|refine zj (fun _=>?_) (fun _=>?_)|refine zi (fun _=>?_) (fun _=>?_)|refine zl (h) (by first|rfl|(simp -dsimp;done)) ?_|refine zk zb (by kernel_rfl) ?_|exact za rfl)|(simp -dsimp)));(all_goals try with_reducible refine za ?_)
end Go.Smd
end
section
namespace Go.Smd
open Go.RowKit
section
variable {P:Program} {N:Nat} {w0:World} {S0:Env} {σ:St}
theorem Weak.adopt {z id:Nat}{T E:TypeId}(hz:σ.h z=some (.cells [.d (.v (.slice none 0 0))] T))(hid:σ.h id=none)(hlt:id<zed):
  Weak P N w0 S0 σ ((σ.new id (.arr 0 E [])).new z (.cells [.gs id 0] T)):=fun β a w s=>by
 obtain ⟨β1,s1,h1,_⟩:=s.nilArr E hlt hid
 have hne:z≠id:=fun e=>by rw[e,hid] at hz;cases hz
 have hz1:(σ.new id (.arr 0 E [])).h z=some (.cells [.d (.v (.slice none 0 0))] T):=by rw[zt];simp only [if_neg hne];exact hz
 have ho:=s1.own z _ hz1
 obtain ⟨b,us,e1,e2,e3⟩:=ho
 obtain ⟨u,us',rfl,ku,k2⟩:=e3.inv
 cases k2.inv0
 obtain ⟨v0,E0,xs0,g1,g2,g3,g4⟩:=h1 u (RepD.mono ku fun _ _=>trivial)
 have gv:v0=0:=by rw[zt] at g1;simp at g1;exact g1.1.symm
 have g5:u=β1 id:=g3 gv.symm
 obtain ⟨s2,_⟩:=s1.write (id:=z) (o':=.cells [.gs id 0] T) (v':=β1 z) (w':=w) (row:=some b) (fun h=>by rw[hz1] at h;cases h) (fun f xs h=>by rw[hz1] at h;cases h) (World.grownBy.refl w (some b)) (fun b' h=>by cases h;exact ⟨_,hz1,by rw[e1];rfl⟩)
  (fun b' hb=>by
   rw[e1] at hb;cases hb
   exact .inl rfl) (fun xs T' _=>⟨⟨_,_,rfl⟩,rfl⟩) (fun ver E xs h=>by rw[hz1] at h;cases h)
  (fun hS k=>⟨b,[u],e1,e2,.cons ⟨0,E,[],by rw[zt,zt];simp [hne.symm],Nat.le_refl _,fun _=>by simp only [if_neg hne.symm];exact g5,g4⟩ .nil⟩)
 exact ⟨_,s2⟩
end
end Go.Smd
end
