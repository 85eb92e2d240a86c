/- Part 6. -/
import Derived.Test.YtdgnolbdcmgfoaaGreatQD05
set_option linter.unusedVariables false
set_option linter.unusedSimpArgs false
set_option maxRecDepth 100000
set_option maxHeartbeats 8000000
section
namespace Go.Smd
open Go.RowKit
section
variable {P:Program} {N:Nat} {w0:World} {S0:Env} {β:Nat→Value} {σ:St} {a:Act} {w:World}
theorem KExt.grown {K:Nat→Prop}{a w w':World}{row:Option Nat}(h:KExt K a w)(hK:∀i,K i→i<a.heap.size)(hg:w.grownBy w' row)(hr:∀k,row=some k→¬K k):KExt K a w':=
 ⟨hg.os.trans h.os,hg.tape.trans h.tape,hg.output.trans h.output,Nat.le_trans h.size hg.size,fun i hi=>(hg.block i (Nat.lt_of_lt_of_le (hK i hi) h.size) fun e=>hr i e.symm hi).trans (h.block i hi)⟩
structure GrownX (Q:Nat→Prop) (w w':World):Prop where
 os:w'.os=w.os
 tape:w'.tape=w.tape
 output:w'.output=w.output
 size:w.heap.size≤w'.heap.size
 block:∀k,k<w.heap.size→¬Q k→w'.heap[k]? =w.heap[k]?
theorem GrownX.refl (Q:Nat→Prop)(w:World):GrownX Q w w:=⟨rfl,rfl,rfl,Nat.le_refl _,fun _ _ _=>rfl⟩
theorem GrownX.trans {Q:Nat→Prop}{a b c:World}(h:GrownX Q a b)(k:GrownX Q b c):GrownX Q a c:=
 ⟨k.os.trans h.os,k.tape.trans h.tape,k.output.trans h.output,Nat.le_trans h.size k.size,fun i hi hq=>(k.block i (Nat.lt_of_lt_of_le hi h.size) hq).trans (h.block i hi hq)⟩
theorem GrownX.of {w w':World}{row:Option Nat}(h:w.grownBy w' row){Q:Nat→Prop}(hr:∀b,row=some b→Q b):GrownX Q w w':=⟨h.os,h.tape,h.output,h.size,fun k hk hq=>h.block k hk fun e=>hq (hr k e.symm)⟩
theorem Build.any {α:Type}{R:World→(Nat→Prop)→α→List Value→Prop}{e size:Nat}{S S' T:Nat→Prop}{w:World}{v:Value}{xs:List α}(h:Build R e size S T w v xs)(k:∀b,v.ownBlock=some b→S' b):Build R e size S' T w v xs:=by
 obtain ⟨cs,h1,_,h2⟩:=h
 exact ⟨cs,h1,k,h2⟩
theorem KExt.grownX {K Q:Nat→Prop}{a w w':World}(h:KExt K a w)(hK:∀i,K i→i<a.heap.size)(hg:GrownX Q w w')(hr:∀k,Q k→¬K k):KExt K a w':=
 ⟨hg.os.trans h.os,hg.tape.trans h.tape,hg.output.trans h.output,Nat.le_trans h.size hg.size,fun i hi=>(hg.block i (Nat.lt_of_lt_of_le (hK i hi) h.size) fun e=>hr i e hi).trans (h.block i hi)⟩
theorem Sim.writeX (s:Sim P N w0 S0 β σ a w){id:Nat}{o':Ow}{v':Value}{w':World}(hz:σ.h id=none→id<zed)(hclo:∀f xs,σ.h id=some (.clo f xs)→(∃f' xs',o'= .clo f' xs')∧v'=β id)(hg:GrownX (fun b=>∃o,σ.h id=some o∧occ (β id) o b) w w')
  (hv':∀b,occ v' o' b→(∃o,σ.h id=some o∧occ (β id) o b)∨(w.heap.size≤b∧b<w'.heap.size))
  (hown:∀xs T,σ.h id=some (.cells xs T)→(∃xs' T',o'= .cells xs' T')∧v'=β id)
  (harr:∀ver E xs,σ.h id=some (.arr ver E xs)→∃ver' E' xs',o'= .arr ver' E' xs'∧ver≤ver'∧(ver=ver'→v'=β id))
  (hrep:(∀b,Sd w0 S0 β σ.h w b→Sd w0 S0 (fun i=>if i=id then v' else β i) (σ.new id o').h w' b)→Steps' P (Sd w0 S0 β σ.h w) (Sd w0 S0 (fun i=>if i=id then v' else β i) (σ.new id o').h w') β (fun i=>if i=id then v' else β i) σ.h (σ.new id o').h w w'→
   zky P (Sd w0 S0 (fun i=>if i=id then v' else β i) (σ.new id o').h w') (fun i=>if i=id then v' else β i) (σ.new id o').h w' v' o'):
  Sim P N w0 S0 (fun i=>if i=id then v' else β i) (σ.new id o') a w'∧Steps' P (Sd w0 S0 β σ.h w) (Sd w0 S0 (fun i=>if i=id then v' else β i) (σ.new id o').h w') β (fun i=>if i=id then v' else β i) σ.h (σ.new id o').h w w':=by
 have hnb:∀b,Sd w0 S0 β σ.h w b→¬∃o,σ.h id=some o∧occ (β id) o b:=fun b hb hr=>by
  obtain ⟨o,h1,h2⟩:=hr
  exact hb.2.2 id o h1 h2
 have hSame:Same (Sd w0 S0 β σ.h w) w w':=fun b hb=>hg.block b hb.2.1 (hnb b hb)
 have hS:∀b,Sd w0 S0 β σ.h w b→Sd w0 S0 (fun i=>if i=id then v' else β i) (σ.new id o').h w' b:=fun b hb=>⟨hb.1,Nat.lt_of_lt_of_le hb.2.1 hg.size,fun i o ho=>by
  rw[zt] at ho
  by_cases e:i=id
  ·simp only [e,if_true] at ho ⊢
   cases ho
   intro hc
   rcases hv' b hc with h|h
   ·exact hnb b hb h
   ·have:=hb.2.1;omega
  ·simp only [e,if_false] at ho ⊢;exact hb.2.2 i o ho⟩
 have k:Steps' P (Sd w0 S0 β σ.h w) (Sd w0 S0 (fun i=>if i=id then v' else β i) (σ.new id o').h w') β (fun i=>if i=id then v' else β i) σ.h (σ.new id o').h w w':=by
  refine ⟨fun x v r=>r.frame hSame hS,fun i xs T hh=>?_,fun i ver E xs hh=>?_,fun i f xs hh=>?_⟩
  ·by_cases e:i=id
   ·subst e
    obtain ⟨⟨xs',T',h1⟩,h2⟩:=hown xs T hh
    exact ⟨⟨xs',T',by rw[zt];simp [h1]⟩,by simp [h2]⟩
   ·exact ⟨⟨xs,T,by rw[zt];simp [e,hh]⟩,by simp [e]⟩
  ·by_cases e:i=id
   ·subst e
    obtain ⟨ver',E',xs',h1,h2,h3⟩:=harr ver E xs hh
    exact ⟨ver',E',xs',by rw[zt];simp [h1],h2,fun h=>by simp [h3 h]⟩
   ·exact ⟨ver,E,xs,by rw[zt];simp [e,hh],Nat.le_refl _,fun _=>by simp [e]⟩
  ·by_cases e:i=id
   ·subst e
    obtain ⟨⟨f',xs',h1⟩,h2⟩:=hclo f xs hh
    exact ⟨⟨f',xs',by rw[zt];simp [h1]⟩,by simp [h2]⟩
   ·exact ⟨⟨f,xs,by rw[zt];simp [e,hh]⟩,by simp [e]⟩
 have hold:∀i o b,i≠id→σ.h i=some o→occ (β i) o b→¬∃o,σ.h id=some o∧occ (β id) o b:=fun i o b hi ho hb hr=>by
  obtain ⟨o2,h1,h2⟩:=hr
  exact hi (s.inj i id o o2 b ho h1 hb h2)
 refine ⟨⟨KExt.grownX s.ext s.hK hg fun b hr=>?_,s.hK,fun i o0 hi0=>⟨(s.kept i o0 hi0).1,fun o ho=>?_⟩,fun i j oi oj b hi hj hbi hbj=>?_,fun i o b hi hb=>?_,fun i o hi=>?_,fun t=>(s.tmp t).step k,s.sz,s.dfr⟩,k⟩
 ·obtain ⟨o,h1,h2⟩:=hr
  exact (s.new id o b h1 h2).1
 ·obtain ⟨hz1,hk⟩:=s.kept i o0 hi0
  rw[zt] at ho
  by_cases e:i=id
  ·subst e
   simp only [if_true] at ho ⊢;cases ho
   cases hh:σ.h i with
   |none=>have:=hz hh;omega
   |some o1=>
    have h1:=hk o1 hh
    cases o1 with
    |cells xs T=>obtain ⟨⟨xs',T',h2⟩,h3⟩:=hown xs T hh;subst h2;rw[h3];cases o0<;>first|exact h1|exact h1.elim
    |arr ver E xs=>
     obtain ⟨ver',E',xs',h2,h3,h4⟩:=harr ver E xs hh;subst h2
     cases o0 with
     |arr k E0 x0=>
      refine ⟨Nat.le_trans h1.1 h3,fun e=>?_⟩
      have e1:k=ver:=by have:=h1.1;omega
      have e2:ver=ver':=by omega
      rw[h4 e2];exact h1.2 e1
     |_=>exact h1.elim
    |clo f xs=>obtain ⟨⟨f',xs',h2⟩,h3⟩:=hclo f xs hh;subst h2;rw[h3];cases o0<;>first|exact h1|exact h1.elim
  ·simp only [e,if_false] at ho ⊢;exact hk o ho
 ·rw[zt] at hi hj
  by_cases ei:i=id<;>by_cases ej:j=id
  ·rw[ei,ej]
  ·simp only [ei,if_true,ej,if_false] at hbi hbj hj hi
   cases hi
   have h1:=hold j oj b ej hj hbj
   rcases hv' b hbi with h|h
   ·exact absurd h h1
   ·have:=(s.new j oj b hj hbj).2;omega
  ·simp only [ei,if_false,ej,if_true] at hbi hbj hi hj
   cases hj
   have h1:=hold i oi b ei hi hbi
   rcases hv' b hbj with h|h
   ·exact absurd h h1
   ·have:=(s.new i oi b hi hbi).2;omega
  ·simp only [ei,ej,if_false] at hi hj hbi hbj
   exact s.inj i j oi oj b hi hj hbi hbj
 ·rw[zt] at hi
  by_cases ei:i=id
  ·simp only [ei,if_true] at hb hi
   cases hi
   rcases hv' b hb with h|h
   ·obtain ⟨o2,h1,h2⟩:=h
    exact ⟨(s.new id o2 b h1 h2).1,Nat.lt_of_lt_of_le (s.new id o2 b h1 h2).2 hg.size⟩
   ·exact ⟨fun hk=>by have:=s.hK b hk;have:=s.ext.size;omega,h.2⟩
  ·simp only [ei,if_false] at hi hb
   exact ⟨(s.new i o b hi hb).1,Nat.lt_of_lt_of_le (s.new i o b hi hb).2 hg.size⟩
 ·by_cases ei:i=id
  ·rw[zt] at hi;simp only [ei,if_true] at hi;cases hi
   rw[ei];simp only [if_true]
   exact hrep hS k
  ·rw[zt] at hi;simp only [ei,if_false] at hi
   have:=s.own i o hi
   simp only [ei,if_false]
   cases o with
   |cells ys T'=>
    obtain ⟨b,vs,h1,h2,h3⟩:=this
    have hb:occ (β i) (.cells ys T') b:=ZN.2 (by rw[h1];rfl)
    refine ⟨b,vs,h1,(hg.block b (s.new i _ b hi hb).2 (hold i _ b ei hi hb)).trans h2,h3.imp fun _ _ _ r=>r.step k⟩
   |arr ver E ys=>
    obtain ⟨h1,h2,h3⟩:=this
    refine ⟨((h1.any (S':=fun k=>(β i).ownBlock=some k) fun _ h=>h).frame (zr P) (S':=fun k=>(β i).ownBlock=some k) (fun b hob=>?_) (fun b hb=>hSame b hb.1) (fun _ h=>h) hS).any fun _ _=>trivial,h2,h3⟩
    have hb:occ (β i) (.arr ver E ys) b:=Z5.2 (by
     obtain ⟨A,c,hs⟩:=h1.slice
     have hob:(β i).ownBlock=some b:=hob
     rw[hs] at hob ⊢;exact hob)
    exact hg.block b (s.new i _ b hi hb).2 (hold i _ b ei hi hb)
   |clo f ys=>obtain ⟨vs,h1,h3⟩:=this;exact ⟨vs,h1.frame hS hSame fun b hb=>hg.block b (s.new i _ b hi hb).2 (hold i _ b ei hi hb),h3.imp fun _ _ _ r=>r.step k⟩
theorem Sim.write (s:Sim P N w0 S0 β σ a w){id:Nat}{o':Ow}{v':Value}{w':World}{row:Option Nat}(hz:σ.h id=none→id<zed)(hclo:∀f xs,σ.h id=some (.clo f xs)→(∃f' xs',o'= .clo f' xs')∧v'=β id)(hg:w.grownBy w' row)
  (hrow:∀b,row=some b→∃o,σ.h id=some o∧bk (β id)=some b)
  (hv':∀b,bk v'=some b→row=some b∨(w.heap.size≤b∧b<w'.heap.size))
  (hown:∀xs T,σ.h id=some (.cells xs T)→(∃xs' T',o'= .cells xs' T')∧v'=β id)
  (harr:∀ver E xs,σ.h id=some (.arr ver E xs)→∃ver' E' xs',o'= .arr ver' E' xs'∧ver≤ver'∧(ver=ver'→v'=β id))
  (hrep:(∀b,Sd w0 S0 β σ.h w b→Sd w0 S0 (fun i=>if i=id then v' else β i) (σ.new id o').h w' b)→Steps' P (Sd w0 S0 β σ.h w) (Sd w0 S0 (fun i=>if i=id then v' else β i) (σ.new id o').h w') β (fun i=>if i=id then v' else β i) σ.h (σ.new id o').h w w'→
   zky P (Sd w0 S0 (fun i=>if i=id then v' else β i) (σ.new id o').h w') (fun i=>if i=id then v' else β i) (σ.new id o').h w' v' o')
  (hfp:o'.fp= []:=by rfl):
  Sim P N w0 S0 (fun i=>if i=id then v' else β i) (σ.new id o') a w'∧Steps' P (Sd w0 S0 β σ.h w) (Sd w0 S0 (fun i=>if i=id then v' else β i) (σ.new id o').h w') β (fun i=>if i=id then v' else β i) σ.h (σ.new id o').h w w':=
 s.writeX hz hclo (GrownX.of hg fun b hb=>by obtain ⟨o,h1,h2⟩:=hrow b hb;exact ⟨o,h1,.inl h2⟩)
  (fun b hb=>by
   rcases hb with hb|hb
   ·rcases hv' b hb with h|h
    ·obtain ⟨o,h1,h2⟩:=hrow b h;exact .inl ⟨o,h1,.inl h2⟩
    ·exact .inr h
   ·rw[hfp] at hb;cases hb) hown harr hrep
theorem zc1 (w:World)(g:Nat)(c:Array Value):w.grownBy (w.setRow g c) (some g):=⟨rfl,rfl,rfl,by simp [World.setRow],fun k _ hk=>by
 have:g≠k:=fun h=>hk (by rw[h])
 simp [World.setRow,Array.getElem?_modify,this]⟩
theorem Sim.store (s:Sim P N w0 S0 β σ a w){T T' n:Nat}{g:Bool}{id off:Nat}{xs ys:List Cl}{x:Av}{v p:Value}(hlay:P.lay T=some (n,g))(hid:σ.h id=some (.cells xs T'))(hys:zap x=some ys)(hn:ys.length=n)(hle:off+n≤xs.length)
  (hx:RepA P (Sd w0 S0 β σ.h w) β σ.h w x v) (hp:RepC P (Sd w0 S0 β σ.h w) β σ.h w (.own id off) p):
  ∃w',(Instr.storeAt T p v).run P w= .ok () w'∧∃β',Sim P N w0 S0 β' (σ.new id (.cells (splice xs off ys) T')) a w':=by
 obtain ⟨xs2,T2,b,h1,h2,rfl⟩:=hp
 rw[hid] at h1;cases h1
 obtain ⟨b',us,h3,h4,h5⟩:=s.own id _ hid
 rw[h2] at h3;cases h3
 have hc:=zdV hys hx
 have hl1:=hc.length
 have hl5:=h5.length
 simp only [Array.length_toList] at hl1
 obtain ⟨hr1,hr2⟩:=zcc hlay w
 have hst:=run_storeCells_at (P:=P) b off T' v.cells.toList 0 us.toArray w h4 (by simp;omega) (fun u hu=>by obtain ⟨c,_,hcu⟩:=hc.mem u hu;exact hcu.one)
 simp only [Nat.add_zero] at hst
 refine ⟨w.setRow b (us.take off++v.cells.toList++us.drop (off+v.cells.toList.length)).toArray,?_,_,(s.write (id:=id) (o':=.cells (splice xs off ys) T') (v':=β id) (fun h=>by rw[hid] at h;cases h) (fun f xs h=>by rw[hid] at h;cases h) (zc1 w b _) (fun b' hb'=>by cases hb';exact ⟨_,hid,by rw[h2];rfl⟩) (fun b' hb'=>by rw[h2] at hb';exact .inl hb') (fun xs2 T2 hh=>?_) (fun ver E xs2 hh=>by rw[hid] at hh;cases hh) fun _ k=>?_).1⟩
 ·unfold Instr.storeAt
  simp only [Instr.sureAddr,Sem.run_bind,Sem.run_pure,Result.andThen_ok,storeVar,hr2]
  have:v.cells.size=n:=by omega
  simp only [this,ne_eq,not_true_eq_false,if_false]
  exact hst
 ·rw[hid] at hh;cases hh;exact ⟨⟨_,_,rfl⟩,rfl⟩
 ·refine ⟨b,splice us off v.cells.toList,h2,?_,?_⟩
  ·have:=setRow_heap w b us.toArray ((us.take off++v.cells.toList++us.drop (off+v.cells.toList.length)).toArray) T' (0,0) h4
   simpa [splice] using this
  ·exact ((h5.splice hc).imp fun _ _ _ r=>r.step k)
theorem zeU {α:Type}{cs us:List α}{off:Nat}(h:off+us.length≤cs.length)(q:Nat):(splice cs off us)[q]? =if q<off then cs[q]? else if q<off+us.length then us[q - off]? else cs[q]? :=by
 unfold splice
 have hl:(cs.take off).length=off:=by rw[List.length_take];omega
 by_cases h1:q<off
 ·rw[if_pos h1,List.append_assoc,List.getElem?_append_left (by omega),List.getElem?_take,if_pos h1]
 ·rw[if_neg h1,List.append_assoc,List.getElem?_append_right (by omega),hl]
  by_cases h2:q<off+us.length
  ·rw[if_pos h2,List.getElem?_append_left (by omega)]
  ·rw[if_neg h2,List.getElem?_append_right (by omega),List.getElem?_drop]
   congr 1;omega
theorem zfe {α:Type}{cs us:List α}{off:Nat}(h:off+us.length≤cs.length):(splice cs off us).length=cs.length:=by
 unfold splice;simp only [List.length_append,List.length_take,List.length_drop];omega
theorem Elems.set {α:Type}{R:α→List Value→Prop}{size:Nat}{xs:List α}{cs us:List Value}{y:α}{i:Nat}(h:Elems R size xs cs)(hi:i<xs.length)(hy:R y us)(hu:us.length=size):Elems R size (xs.set i y) (splice cs (i*size) us):=by
 have hle:i*size+us.length≤cs.length:=by
  rw[hu,h.1,←Nat.succ_mul];exact Nat.mul_le_mul_right _ hi
 refine ⟨by rw[zfe hle,h.1,List.length_set],fun j x hj=>?_⟩
 rw[List.getElem?_set] at hj
 by_cases e:i=j
 ·subst e
  rw[if_pos rfl,if_pos hi] at hj
  cases hj
  have:((splice cs (i*size) us).drop (i*size)).take size=us:=by
   apply List.ext_getElem?
   intro q
   rw[List.getElem?_take]
   by_cases hq:q<size
   ·rw[if_pos hq,List.getElem?_drop,zeU hle,if_neg (by omega),if_pos (by omega)]
    congr 1;omega
   ·rw[if_neg hq];symm;rw[List.getElem?_eq_none_iff];omega
  rw[this];exact hy
 ·rw[if_neg e] at hj
  have hne:((splice cs (i*size) us).drop (j*size)).take size=(cs.drop (j*size)).take size:=by
   apply List.ext_getElem?
   intro q
   rw[List.getElem?_take,List.getElem?_take]
   by_cases hq:q<size
   ·rw[if_pos hq,if_pos hq,List.getElem?_drop,List.getElem?_drop,zeU hle]
    rcases Nat.lt_or_ge i j with hij|hij
    ·have:=Nat.mul_le_mul_right size (show i+1≤j from hij)
     rw[Nat.add_mul,Nat.one_mul] at this
     rw[if_neg (by omega),if_neg (by omega)]
    ·have:=Nat.mul_le_mul_right size (show j+1≤i by omega)
     rw[Nat.add_mul,Nat.one_mul] at this
     rw[if_pos (by omega)]
   ·rw[if_neg hq,if_neg hq]
  rw[hne];exact h.2 j x hj
theorem Sim.storeRow (s:Sim P N w0 S0 β σ a w){T E n:Nat}{g:Bool}{id ver k sz i:Nat}{xs:List (List D)}{ys:List Cl}{ds:List D}{x:Av}{v p:Value}(hlay:P.lay T=some (n,g))(hid:σ.h id=some (.arr ver E xs))(hys:zap x=some ys)(hn:ys.length=n)(hds:zc ys=some ds)(hk:k=ver)(hsz:n=sz)(hsE:sz=P.cellsOf E)(hpos:0<sz)(hi:i<xs.length)
  (hx:RepA P (Sd w0 S0 β σ.h w) β σ.h w x v) (hp:RepC P (Sd w0 S0 β σ.h w) β σ.h w (.ga id k sz i) p):
  ∃w',(Instr.storeAt T p v).run P w= .ok () w'∧∃β',Sim P N w0 S0 β' (σ.new id (.arr ver E (xs.set i ds))) a w':=by
 subst hk;subst hsz;subst hsE
 obtain ⟨ver',E',xs',h1,_,h3,_⟩:=hp
 rw[hid] at h1;cases h1
 obtain ⟨b,m,c,hs,rfl⟩:=h3 rfl
 obtain ⟨⟨cs,⟨ho1,ho2⟩,hb,he⟩,hbytes,hl⟩:=s.own id _ hid
 rcases ho2 with ⟨h5,h6⟩|⟨b',cap,cur,h5,_,hg,hnc,hcm,hcs,htake⟩
 ·omega
 rw[hs] at h5;cases h5
 have hc:=zdV hys hx
 have hD:=zeu hds hc
 have hl1:=hc.length
 have hl2:=hD.length
 simp only [Array.length_toList] at hl1 hl2
 obtain ⟨hr1,hr2⟩:=zcc hlay w
 have hoff:(i+1)*P.cellsOf E≤c*P.cellsOf E:=Nat.mul_le_mul_right _ (by omega)
 rw[Nat.add_mul,Nat.one_mul] at hoff
 have hoff2:(i+1)*P.cellsOf E≤xs.length*P.cellsOf E:=Nat.mul_le_mul_right _ (by omega)
 rw[Nat.add_mul,Nat.one_mul] at hoff2
 have hst:=run_storeCells_at (P:=P) b (i*P.cellsOf E) E v.cells.toList 0 cur w hg (by simp;omega) (fun u hu=>by obtain ⟨c,_,hcu⟩:=hc.mem u hu;exact hcu.one)
 simp only [Nat.add_zero] at hst
 have hle:i*P.cellsOf E+v.cells.toList.length≤cur.toList.length:=by simp;omega
 have hle2:i*P.cellsOf E+v.cells.toList.length≤cs.length:=by rw[ho1];simp;omega
 refine ⟨w.setRow b (cur.toList.take (i*P.cellsOf E)++v.cells.toList++cur.toList.drop (i*P.cellsOf E+v.cells.toList.length)).toArray,?_,_,(s.write (id:=id) (o':=.arr k E (xs.set i ds)) (v':=β id) (fun h=>by rw[hid] at h;cases h) (fun f xs h=>by rw[hid] at h;cases h) (zc1 w b _) (fun b' hb'=>by cases hb';exact ⟨_,hid,by rw[hs];rfl⟩) (fun b' hb'=>.inl (by rw[hs] at hb';exact hb')) (fun xs T hh=>by rw[hid] at hh;cases hh) (fun _ _ _ hh=>by rw[hid] at hh;cases hh;exact ⟨_,_,_,rfl,Nat.le_refl _,fun _=>rfl⟩) (fun hS k=>?_)).1⟩
 ·unfold Instr.storeAt
  simp only [Instr.sureAddr,Sem.run_bind,Sem.run_pure,Result.andThen_ok,storeVar,hr2]
  have:v.cells.size=P.cellsOf E:=by omega
  simp only [this,ne_eq,not_true_eq_false,if_false]
  exact hst
 ·have hsame:Same (Sd w0 S0 β σ.h w) w (w.setRow b (cur.toList.take (i*P.cellsOf E)++v.cells.toList++cur.toList.drop (i*P.cellsOf E+v.cells.toList.length)).toArray):=fun b' hb'=>(zc1 w b _).block b' hb'.2.1 fun h=>by
   cases h
   exact hb'.2.2 id _ hid (.inl (by rw[hs];rfl))
  have hheap:=setRow_heap w b cur ((cur.toList.take (i*P.cellsOf E)++v.cells.toList++cur.toList.drop (i*P.cellsOf E+v.cells.toList.length)).toArray) E (0,0) hg
  refine ⟨⟨splice cs (i*P.cellsOf E) v.cells.toList,⟨by rw[zfe hle2,ho1,List.length_set],.inr ⟨b,c,_,by rw[hs,List.length_set],Nat.zero_le _,hheap,by rw[List.length_set];exact hnc,hcm,?_,?_⟩⟩,fun _ _=>trivial,?_⟩,by rw[List.length_set];exact hbytes,fun x hx=>?_⟩
  ·have:=zfe hle
   unfold splice at this
   simp only [List.size_toArray,this]
   simpa using hcs
  ·rw[List.length_set]
   apply List.ext_getElem?
   intro q
   rw[List.getElem?_take,zeU hle2]
   show (if q<_ then (splice cur.toList _ _)[q]? else none)=_
   rw[zeU hle,←htake]
   simp only [List.getElem?_take]
   by_cases h1:q<xs.length*P.cellsOf E
   ·simp only [if_pos h1]
   ·rw[if_neg h1,if_neg (by omega),if_neg (by simp;omega),if_neg h1]
  ·refine Elems.set (he.imp fun x c r=>r.imp fun d u _ h=>RepD.frame h (fun b' hb'=>hsame b' hb'.1) fun b' hb'=>⟨hS b' hb'.1,hb'.2⟩) hi (hD.imp fun d u _ h=>RepD.frame h hsame fun b' hb'=>⟨hS b' hb',?_⟩) (by simp;omega)
   intro h
   exact hb'.2.2 id _ hid (.inl (by rw[hs] at h ⊢;exact h))
  ·rcases List.mem_or_eq_of_mem_set hx with h|h
   ·exact hl x h
   ·subst h;omega
def zun (P:Program):Nat→TypeId→List (Option TypeId)
 |0,_=>[]
 |n+1,T=>match P.underlying T with
  |some (.struct fs)=>fs.toList.flatMap fun f=>zun P n f.type
  |some (.slice e)=>[some e]
  |_=>List.replicate (P.cellsOf T) none
def ZP (P:Program)(T:TypeId):List (Option TypeId):=zun P 8 T
def coC:Option TypeId→Cl→Cl
 |some E,.d (.v (.slice none 0 0))=>.d (.sl E [])
 |_,x=>x
def coL:List (Option TypeId)→List Cl→List Cl
 |t::ts,x::xs=>coC t x::coL ts xs
 |_,xs=>xs
theorem zn0 {S:Nat→Prop}{hh:Nat→Option Ow}{t:Option TypeId}{x:Cl}{v:Value}(h:RepC P S β hh w x v):RepC P S β hh w (coC t x) v:=by
 unfold coC
 split
 ·obtain ⟨rfl,_⟩:=ZL (show RepA P S β hh w (.c (.d (.v (.slice none 0 0)))) v from h)
  exact RepD.nil _
 ·exact h
theorem zkB {S:Nat→Prop}{hh:Nat→Option Ow}:∀{ts:List (Option TypeId)} {xs:List Cl} {us:List Value},All2 (RepC P S β hh w) xs us→All2 (RepC P S β hh w) (coL ts xs) us
 | [],[],us,h=>h
 | [],_::_,us,h=>h
 |t::ts,_,_,.nil=>.nil
 |t::ts,_,_,.cons h k=>.cons (zn0 h) (zkB k)
def ziW (F:List Nat)(h:Nat→Option Ow):Cl→Cl
 | .gs id k=>if F.contains id then (match h id with
  |some (.arr ver E xs)=>if k=ver then .d (.sl E xs) else .un
  |_=>.un) else .gs id k
 |x=>x
def zcN (P:Program)(F:List Nat)(h:Nat→Option Ow):Nat→Cl→Cl
 |0,.own id off=>if F.contains id then .un else .own id off
 |0,.io T id off=>if F.contains id then .un else .io T id off
 |0,.fn id=>if F.contains id then (match h id with|some (.clo (.set _ t) _)=>.d (.pt (zkx t))|_=>.un) else .fn id
 |0,.ga id k sz i=>if F.contains id then .un else .ga id k sz i
 |n+1,.own id off=>if F.contains id then (match h id with
  |some (.cells xs T)=>match zc (coL (ZP P T) (xs.map (zcN P F h n))) with
   |some ds=>.d (.pt (ds.drop off))
   |none=>.un
  |_=>.un) else .own id off
 |n+1,.io T' id off=>if F.contains id then (match h id with
  |some (.cells xs T)=>match zc (coL (ZP P T) (xs.map (zcN P F h n))) with
   |some ds=>.d (.ifc T' (.pt (ds.drop off)))
   |none=>.un
  |_=>.un) else .io T' id off
 |_+1,.fn id=>if F.contains id then (match h id with|some (.clo (.set _ t) _)=>.d (.pt (zkx t))|_=>.un) else .fn id
 |_+1,.ga id k sz i=>if F.contains id then .un else .ga id k sz i
 |_,x=>ziW F h x
def zgg (P:Program)(F:List Nat)(h:Nat→Option Ow)(x:Cl):Cl:=zcN P F h 6 x
def zcO (P:Program)(F:List Nat)(h:Nat→Option Ow):Av→Av
 | .c x=>.c (zgg P F h x)
 | .agg xs=>.agg (xs.map (zgg P F h))
 | .tup xs=>.tup (xs.map fun p=>(p.1,p.2.map (zgg P F h)))
 | .any=>.any
def zkC (P:Program)(F:List Nat)(h:Nat→Option Ow):Ow→Ow
 | .cells xs T=>.cells (xs.map (zgg P F h)) T
 | .clo f xs=>.clo f (xs.map (zgg P F h))
 |o=>o
def St.frz (P:Program)(F:List Nat)(σ:St):St:=⟨zcM (zcO P F σ.h) σ.tmps,zcM (zkC P F σ.h) (zbt (fun i=> !F.contains i) σ.own)⟩
theorem zbJ {α α':Type}(f:α→α'):∀(l:List (Nat×α)) (n:Nat),zd (l.map fun p=>(p.1,f p.2)) n=(zd l n).map f
 | [],n=>rfl
 |(k,x)::l,n=>by
  simp only [List.map_cons,zd]
  by_cases e:k=n
  ·rw[if_pos e,if_pos e];rfl
  ·rw[if_neg e,if_neg e,zbJ f l n]
theorem zcw {α:Type}(F:List Nat):∀(l:List (Nat×α)) (n:Nat),zd (l.filter fun p=> !F.contains p.1) n=if F.contains n then none else zd l n
 | [],n=>by simp [zd]
 |(k,x)::l,n=>by
  rw[List.filter_cons]
  by_cases hk:F.contains k
  ·simp only [hk,Bool.not_true,Bool.false_eq_true,if_false,zcw F l n,zd]
   by_cases e:k=n
   ·subst e;rw[if_pos hk,if_pos hk]
   ·rw[if_neg e]
  ·simp only [hk,Bool.not_false,if_true,zd,zcw F l n]
   by_cases e:k=n
   ·subst e;rw[if_pos rfl,if_pos rfl,if_neg hk]
   ·rw[if_neg e,if_neg e]
theorem zkD (F:List Nat)(t:Nat):(σ.frz P F).tmp t=zcO P F σ.h (σ.tmp t):=by
 unfold St.tmp St.frz
 simp only [zcm,zbJ]
 cases zd σ.tmps t<;>rfl
theorem zlE (F:List Nat)(i:Nat):(σ.frz P F).h i=if F.contains i then none else (σ.h i).map (zkC P F σ.h):=by
 unfold St.h St.frz
 simp only [zcm,zdQ,zbJ,zcw]
 split<;>rfl
theorem zfF {v:Value}{o:Ow}{b:Nat}{F:List Nat}{h:Nat→Option Ow}:occ v (zkC P F h o) b↔occ v o b:=by cases o<;>exact Iff.rfl
theorem ZX {α α' γ:Type}{R:α→γ→Prop}{R':α'→γ→Prop}{f:α→α'}{xs:List α}{us:List γ}(h:All2 R xs us)(k:∀x u,x∈xs→R x u→R' (f x) u):All2 R' (xs.map f) us:=by
 induction h with
 |nil=>exact .nil
 |cons h t ih=>exact .cons (k _ _ (List.mem_cons_self ..) h) (ih fun x u hx=>k x u (List.mem_cons_of_mem _ hx))
theorem Sim.frzAll (s:Sim P N w0 S0 β σ a w)(F:List Nat):Sim P N w0 S0 β (σ.frz P F) a w∧∀x v,RepA P (Sd w0 S0 β σ.h w) β σ.h w x v→RepA P (Sd w0 S0 β (σ.frz P F).h w) β (σ.frz P F).h w (zcO P F σ.h x) v:=by
 have hsub:∀i o,(σ.frz P F).h i=some o→F.contains i=false∧∃o',σ.h i=some o'∧o=zkC P F σ.h o':=fun i o h=>by
  rw[zlE] at h
  split at h
  ·cases h
  ·next hF=>obtain ⟨o',h1,h2⟩:=Option.map_eq_some_iff.1 h;exact ⟨by simpa using hF,o',h1,h2.symm⟩
 have hS:∀b,Sd w0 S0 β σ.h w b→Sd w0 S0 β (σ.frz P F).h w b:=fun b hb=>⟨hb.1,hb.2.1,fun i o h hc=>by obtain ⟨_,o',h',eo⟩:=hsub i o h;rw[eo] at hc;exact hb.2.2 i o' h' (zfF.1 hc)⟩
 have hblk:∀i o b,F.contains i=true→σ.h i=some o→occ (β i) o b→Sd w0 S0 β (σ.frz P F).h w b:=fun i o b hF ho hb=>by
  obtain ⟨h1,h2⟩:=s.new i o b ho hb
  refine ⟨.inr h1,h2,fun j o2 hj hbj=>?_⟩
  obtain ⟨hj1,o3,hj2,ej⟩:=hsub j o2 hj
  have:=s.inj i j o o3 b ho hj2 hb (by rw[ej] at hbj;exact zfF.1 hbj)
  subst this
  rw[hF] at hj1;cases hj1
 have hin:∀i o,F.contains i=false→σ.h i=some o→(σ.frz P F).h i=some (zkC P F σ.h o):=fun i o hF ho=>by rw[zlE,hF,ho];rfl
 have fixG:∀{x:Cl} {v:Value},RepC P (Sd w0 S0 β σ.h w) β σ.h w x v→(∀id off,x≠ .own id off)→(∀T id off,x≠ .io T id off)→(∀id,x≠ .fn id)→(∀id k sz i,x≠ .ga id k sz i)→RepC P (Sd w0 S0 β (σ.frz P F).h w) β (σ.frz P F).h w (ziW F σ.h x) v:=by
  intro x v r hno hni hnf hng
  cases x with
  |d x=>exact RepD.mono r hS
  |own id off=>exact absurd rfl (hno id off)
  |io T id off=>exact absurd rfl (hni T id off)
  |fn id=>exact absurd rfl (hnf id)
  |ga id k sz i=>exact absurd rfl (hng id k sz i)
  |gs id k=>
   by_cases hF:F.contains id=true
   ·obtain ⟨ver,E,xs,h1,h2,h3,h4⟩:=r
    simp only [ziW,hF,if_true,h1]
    by_cases e:k=ver
    ·simp only [e,if_true]
     have hv:=h3 e
     obtain ⟨hB,hb,hl⟩:=s.own id _ h1
     by_cases h0:0<P.cellsOf E
     ·obtain ⟨A,c,hs,hc,hrow⟩:=hB.done (zr P) h0
      rw[hv,hs]
      refine RepD.sl_iff.2 ⟨A,c,rfl,hc,hb,fun j row hj=>⟨hl row (List.mem_of_getElem? hj),fun _=>?_⟩⟩
      obtain ⟨ad,cs,ha,_,hr,hcl,hcells⟩:=hrow j row hj
      refine ⟨ad,ha,fun i d hi=>?_⟩
      obtain ⟨u,hu,hd⟩:=All2.at hr hi
      refine ⟨u,?_,hcells i u hu,RepD.mono hd hS⟩
      rw[zB]
      refine hblk id _ ad.block hF h1 (.inl ?_)
      rw[hs,ha];rfl
     ·obtain ⟨A,c,hs⟩:=hB.slice
      obtain ⟨cs,ho,_⟩:=hB
      have hc:xs.length≤c:=by
       rcases ho.2 with ⟨h5,h6⟩|⟨g,cap,cur,h5,_,_,h6,_⟩
       ·rw[hs] at h5;injection h5 with _ h7 h8;omega
       ·rw[hs] at h5;injection h5 with _ _ h8;omega
      rw[hv,hs]
      exact RepD.sl_iff.2 ⟨A,c,rfl,hc,hb,fun j row hj=>⟨hl row (List.mem_of_getElem? hj),fun h=>absurd h h0⟩⟩
    ·simp only [e,if_false];exact h4
   ·obtain ⟨ver,E,xs,h1,h2,h3,h4⟩:=r
    simp only [ziW,hF,if_false]
    exact ⟨ver,E,xs,hin id _ (by simpa using hF) h1,h2,h3,h4⟩
  |un=>exact r
 have fixN:∀(n:Nat) {x:Cl} {v:Value},RepC P (Sd w0 S0 β σ.h w) β σ.h w x v→RepC P (Sd w0 S0 β (σ.frz P F).h w) β (σ.frz P F).h w (zcN P F σ.h n x) v:=by
  have keepO:∀{id off:Nat} {v:Value},F.contains id=false→RepC P (Sd w0 S0 β σ.h w) β σ.h w (.own id off) v→RepC P (Sd w0 S0 β (σ.frz P F).h w) β (σ.frz P F).h w (.own id off) v:=by
   intro id off v hF r
   obtain ⟨xs,T,b,h1,h2,h3⟩:=r
   exact ⟨_,T,b,hin id _ hF h1,h2,h3⟩
  have keepI:∀{T id off:Nat} {v:Value},F.contains id=false→RepC P (Sd w0 S0 β σ.h w) β σ.h w (.io T id off) v→RepC P (Sd w0 S0 β (σ.frz P F).h w) β (σ.frz P F).h w (.io T id off) v:=by
   intro T id off v hF r
   obtain ⟨xs,T,b,h1,h2,h3⟩:=r
   exact ⟨_,T,b,hin id _ hF h1,h2,h3⟩
  have keepF:∀{id:Nat} {v:Value},F.contains id=false→RepC P (Sd w0 S0 β σ.h w) β σ.h w (.fn id) v→RepC P (Sd w0 S0 β (σ.frz P F).h w) β (σ.frz P F).h w (.fn id) v:=by
   intro id v hF r
   obtain ⟨f,xs,h1,h2,h3⟩:=r
   exact ⟨f,_,hin id _ hF h1,h2,h3⟩
  have keepG:∀{id k sz i:Nat} {v:Value},F.contains id=false→RepC P (Sd w0 S0 β σ.h w) β σ.h w (.ga id k sz i) v→RepC P (Sd w0 S0 β (σ.frz P F).h w) β (σ.frz P F).h w (.ga id k sz i) v:=by
   intro id k sz i v hF r
   obtain ⟨ver,E,xs,h1,h2,h3,h4⟩:=r
   exact ⟨ver,E,_,hin id _ hF h1,h2,h3,h4⟩
  have fixF:∀{id:Nat} {v:Value},F.contains id=true→RepC P (Sd w0 S0 β σ.h w) β σ.h w (.fn id) v→RepC P (Sd w0 S0 β (σ.frz P F).h w) β (σ.frz P F).h w (match σ.h id with|some (.clo (.set _ t) _)=>.d (.pt (zkx t))|_=>.un) v:=by
   intro id v hF r
   have h1:=RepC.one r
   split
   ·next F0 t xs hid=>
    obtain ⟨f,ys,h2,h3,h4⟩:=r
    rw[hid] at h2;cases h2
    obtain ⟨us,⟨_,b,hv,hO⟩,_⟩:=s.own id _ hid
    rw[h3,hv]
    exact hO.data t hS fun x hx=>hblk id _ x hF hid (.inr hx)
   ·exact h1
  intro n
  induction n with
  |zero=>
   intro x v r
   cases x with
   |own id off=>
    simp only [zcN]
    split
    ·exact RepC.one r
    ·next hF=>exact keepO (by simpa using hF) r
   |io T id off=>
    simp only [zcN]
    split
    ·exact RepC.one r
    ·next hF=>exact keepI (by simpa using hF) r
   |fn id=>
    simp only [zcN]
    split
    ·next hF=>exact fixF hF r
    ·next hF=>exact keepF (by simpa using hF) r
   |ga id k sz i=>
    simp only [zcN]
    split
    ·exact RepC.one r
    ·next hF=>exact keepG (by simpa using hF) r
   |d x=>exact fixG r (fun _ _ h=>by cases h) (fun _ _ _ h=>by cases h) (fun _ h=>by cases h) fun _ _ _ _ h=>by cases h
   |gs id k=>exact fixG r (fun _ _ h=>by cases h) (fun _ _ _ h=>by cases h) (fun _ h=>by cases h) fun _ _ _ _ h=>by cases h
   |un=>exact r
  |succ n ih=>
   intro x v r
   have key:∀{id:Nat} {xs:List Cl} {T:TypeId} {b off:Nat} {ds:List D},F.contains id=true→σ.h id=some (.cells xs T)→β id= .pointer (some ⟨b,0,none⟩)→zc (coL (ZP P T) (xs.map (zcN P F σ.h n)))=some ds→
     RepD P w (Sd w0 S0 β (σ.frz P F).h w) (.pt (ds.drop off)) (.pointer (some ⟨b,off,none⟩)):=by
    intro id xs T b off ds hF h1 h2 hds
    obtain ⟨b',us,h4,h5,h6⟩:=s.own id _ h1
    rw[h2] at h4;cases h4
    have h7:All2 (RepC P (Sd w0 S0 β (σ.frz P F).h w) β (σ.frz P F).h w) (coL (ZP P T) (xs.map (zcN P F σ.h n))) us:=zkB (ZX h6 fun x u _ r=>ih r)
    have h8:=zeu hds h7
    refine RepD.pt_iff.2 ⟨_,rfl,fun i d hi=>?_⟩
    rw[List.getElem?_drop] at hi
    obtain ⟨u,hu,hd⟩:=h8.at hi
    refine ⟨u,hblk id _ b hF h1 (.inl (by rw[h2];rfl)),?_,hd⟩
    rw[zfc]
    exact zh h5 (by simpa using hu)
   cases x with
   |own id off=>
    simp only [zcN]
    by_cases hF:F.contains id=true
    ·have hone:=RepC.one r
     obtain ⟨xs,T,b,h1,h2,h3⟩:=r
     simp only [hF,if_true,h1]
     cases hds:zc (coL (ZP P T) (xs.map (zcN P F σ.h n))) with
     |some ds=>simp only;rw[h3];exact key hF h1 h2 hds
     |none=>exact hone
    ·rw[if_neg hF];exact keepO (by simpa using hF) r
   |io T' id off=>
    simp only [zcN]
    by_cases hF:F.contains id=true
    ·have hone:=RepC.one r
     obtain ⟨xs,T,b,h1,h2,h3⟩:=r
     simp only [hF,if_true,h1]
     cases hds:zc (coL (ZP P T) (xs.map (zcN P F σ.h n))) with
     |some ds=>simp only;rw[h3];exact RepD.ifc (key hF h1 h2 hds)
     |none=>exact hone
    ·rw[if_neg hF];exact keepI (by simpa using hF) r
   |fn id=>
    simp only [zcN]
    split
    ·next hF=>exact fixF hF r
    ·next hF=>exact keepF (by simpa using hF) r
   |ga id k sz i=>
    simp only [zcN]
    split
    ·exact RepC.one r
    ·next hF=>exact keepG (by simpa using hF) r
   |d x=>exact fixG r (fun _ _ h=>by cases h) (fun _ _ _ h=>by cases h) (fun _ h=>by cases h) fun _ _ _ _ h=>by cases h
   |gs id k=>exact fixG r (fun _ _ h=>by cases h) (fun _ _ _ h=>by cases h) (fun _ h=>by cases h) fun _ _ _ _ h=>by cases h
   |un=>exact r
 have fixC:∀{x:Cl} {v:Value},RepC P (Sd w0 S0 β σ.h w) β σ.h w x v→RepC P (Sd w0 S0 β (σ.frz P F).h w) β (σ.frz P F).h w (zgg P F σ.h x) v:=fun r=>fixN 6 r
 have fixA:∀x v,RepA P (Sd w0 S0 β σ.h w) β σ.h w x v→RepA P (Sd w0 S0 β (σ.frz P F).h w) β (σ.frz P F).h w (zcO P F σ.h x) v:=by
  intro x v hr
  cases x with
  |c x=>exact fixC hr
  |agg xs=>obtain ⟨us,hu,ha⟩:=hr;exact ⟨us,hu,ZX ha fun x u _ r=>fixC r⟩
  |tup xs=>
   obtain ⟨us,hu,ha⟩:=hr
   refine ⟨us,hu,ZX ha fun p u _ r=>?_⟩
   unfold RepP at*
   simp only
   split at r
   ·next hb=>rw[if_pos hb];obtain ⟨us,hu,ha⟩:=r;exact ⟨us,hu,ZX ha fun x u _ r=>fixC r⟩
   ·next hb=>rw[if_neg hb];obtain ⟨y,hy,hr⟩:=r;exact ⟨_,by rw[hy];rfl,fixC hr⟩
  |any=>trivial
 refine ⟨⟨s.ext,s.hK,fun i o0 hi0=>⟨(s.kept i o0 hi0).1,fun o ho=>?_⟩,fun i j oi oj b hi hj=>?_,fun i o b hi=>?_,fun i o hi=>?_,fun t=>?_,s.sz,s.dfr⟩,fixA⟩
 ·obtain ⟨_,o',h1,rfl⟩:=hsub i o ho
  have:=(s.kept i o0 hi0).2 o' h1
  cases o'<;>cases o0<;>first|exact this|exact this.elim
 ·obtain ⟨_,o1,h1,rfl⟩:=hsub i oi hi;obtain ⟨_,o2,h2,rfl⟩:=hsub j oj hj;exact fun k1 k2=>s.inj i j o1 o2 b h1 h2 (zfF.1 k1) (zfF.1 k2)
 ·obtain ⟨_,o1,h1,rfl⟩:=hsub i o hi;exact fun k1=>s.new i o1 b h1 (zfF.1 k1)
 ·obtain ⟨_,o',h1,rfl⟩:=hsub i o hi
  have hr:=s.own i o' h1
  cases o' with
  |cells xs T=>obtain ⟨b,us,h3,h4,h5⟩:=hr;exact ⟨b,us,h3,h4,ZX h5 fun x u _ r=>fixC r⟩
  |arr ver E xs=>obtain ⟨h3,h4,h5⟩:=hr;exact ⟨h3.frame (zr P) (fun _ _=>rfl) (fun _ _=>rfl) (fun _ h=>h) hS,h4,h5⟩
  |clo f xs=>obtain ⟨us,h3,h5⟩:=hr;exact ⟨us,h3.mono hS,ZX h5 fun x u _ r=>fixC r⟩
 ·rw[zkD];exact fixA _ _ (s.tmp t)
theorem Sim.frz (s:Sim P N w0 S0 β σ a w)(F:List Nat):Sim P N w0 S0 β (σ.frz P F) a w:=(s.frzAll F).1
theorem RepA.frz (s:Sim P N w0 S0 β σ a w){x:Av}{v:Value}(r:RepA P (Sd w0 S0 β σ.h w) β σ.h w x v)(F:List Nat):RepA P (Sd w0 S0 β (σ.frz P F).h w) β (σ.frz P F).h w (zcO P F σ.h x) v:=(s.frzAll F).2 x v r
def zmU (P:Program)(T:TypeId):Av→Av
 | .c x=>match ZP P T with|t::_=>.c (coC t x)| []=>.c x
 | .agg xs=>.agg (coL (ZP P T) xs)
 |x=>x
theorem zlF {S:Nat→Prop}{hh:Nat→Option Ow}{T:TypeId}{x:Av}{v:Value}(h:RepA P S β hh w x v):RepA P S β hh w (zmU P T x) v:=by
 unfold zmU
 split
 ·split
  ·exact zn0 h
  ·exact h
 ·obtain ⟨us,h1,h2⟩:=h;exact ⟨us,h1,zkB h2⟩
 ·exact h
end
section
variable {P:Program} {N:Nat} {w0:World} {S0:Env} {β:Nat→Value} {σ:St} {a:Act} {w:World}
theorem RepRow.cells {S:Nat→Prop}{xs:List D}{ad:Addr}(h:RepRow P w S xs ad):∃us:List Value,us.length=xs.length∧All2 (RepD P w S) xs us∧CellsAt w ad us:=by
 refine ⟨(List.range xs.length).map fun i=>(w.cell? (ad.add i)).getD undef,by simp,All2.of (by simp) fun i d u hi hu=>?_,fun j u hu=>?_⟩
 ·obtain ⟨u',_,hc,hr⟩:=h i d hi
  rw[List.getElem?_map] at hu
  obtain ⟨i',hi',rfl⟩:=Option.map_eq_some_iff.1 hu
  obtain ⟨hlt,rfl⟩:=List.getElem?_eq_some_iff.1 hi'
  simp only [List.getElem_range,hc,Option.getD_some];exact hr
 ·rw[List.getElem?_map] at hu
  obtain ⟨i',hi',rfl⟩:=Option.map_eq_some_iff.1 hu
  obtain ⟨hlt,rfl⟩:=List.getElem?_eq_some_iff.1 hi'
  simp only [List.length_range] at hlt
  obtain ⟨u',_,hc,hr⟩:=h j xs[j] (List.getElem?_eq_getElem hlt)
  simp only [List.getElem_range,hc,Option.getD_some]
theorem RowOf.any {S:Nat→Prop}{E:TypeId}{ys:List (List D)}{A:Option Addr}{T:Nat→Prop}(h:RowOf (RDs P w T) (P.cellsOf E) S w A ys):RowOf (RDs P w T) (P.cellsOf E) (fun _=>True) w A ys:=fun j x hj=>by
 obtain ⟨ad,cs,h1,_,h3⟩:=h j x hj
 exact ⟨ad,cs,h1,trivial,h3⟩
theorem RepD.rowOf {S T:Nat→Prop}{E:TypeId}{ys:List (List D)}{u:Value}(h:RepD P w S (.sl E ys) u)(hp:0<P.cellsOf E)(hT:∀b,S b→T b):∃A c,u= .slice A ys.length c∧RowOf (RDs P w T) (P.cellsOf E) S w A ys:=by
 obtain ⟨A,c,rfl,_,_,hr⟩:=RepD.sl_iff.1 h
 refine ⟨A,c,rfl,fun j x hj=>?_⟩
 obtain ⟨hl,hq⟩:=hr j x hj
 obtain ⟨ad,ha,hrow⟩:=hq hp
 obtain ⟨us,h1,h2,h3⟩:=hrow.cells
 have hS:S ad.block:=by
  obtain ⟨u,hs,_⟩:=hrow 0 x[0] (List.getElem?_eq_getElem (by omega))
  rwa[zB] at hs
 exact ⟨ad,us,ha,hS,h2.imp fun _ _ _ r=>r.mono hT,by omega,h3⟩
def _root_.Go.Program.appOk (P:Program)(E:TypeId):Bool:=match P.info? E with
 |some i=>(match i.zero with|some z=>z.cells.size==i.size|none=>false) && decide (0<i.size) && decide (0<i.bytes)
 |none=>false
theorem zcd {E:TypeId}(h:P.appOk E=true):∃z,(P.info? E).map (fun i=>(i.zero,i.size,i.bytes))=some (some z,P.cellsOf E,P.bytesOf E)∧z.cells.size=P.cellsOf E∧0<P.cellsOf E∧0<P.bytesOf E:=by
 unfold Go.Program.appOk at h
 split at h
 ·next i hi=>
  simp only [Bool.and_eq_true,decide_eq_true_eq] at h
  obtain ⟨⟨h1,h2⟩,h3⟩:=h
  split at h1
  ·next z hz=>
   refine ⟨z,?_,?_,?_,?_⟩<;>simp [hi,hz,Go.Program.cellsOf,Go.Program.bytesOf]
   ·simpa using h1
   ·exact h2
   ·exact h3
  ·cases h1
 ·cases h
theorem Sim.nilArr (s:Sim P N w0 S0 β σ a w){id:Nat}(E:TypeId)(hz:id<zed)(hid:σ.h id=none):∃β',Sim P N w0 S0 β' (σ.new id (.arr 0 E [])) a w∧(∀v,RepD P w (fun _=>True) (.v (.slice none 0 0)) v→RepC P (Sd w0 S0 β' (σ.new id (.arr 0 E [])).h w) β' (σ.new id (.arr 0 E [])).h w (.gs id 0) v)∧Steps' P (Sd w0 S0 β σ.h w) (Sd w0 S0 β' (σ.new id (.arr 0 E [])).h w) β β' σ.h (σ.new id (.arr 0 E [])).h w w:=by
 obtain ⟨s1,k⟩:=s.write (id:=id) (o':=.arr 0 E []) (v':=.slice none 0 0) (w':=w) (row:=none) (fun _=>hz) (fun f xs h=>by rw[hid] at h;cases h) (World.grownBy.refl w none) (fun b h=>by cases h) (fun b h=>by simp [bk,Value.ownBlock] at h) (fun xs T h=>by rw[hid] at h;cases h) (fun ver E xs h=>by rw[hid] at h;cases h)
  fun hS k=>⟨Build.nil,by simp,by simp⟩
 refine ⟨_,s1,fun v hv=>?_,k⟩
 cases hv
 exact ⟨0,E,[],by rw[zt];simp,Nat.le_refl _,fun _=>by simp,rfl⟩
theorem Sim.append (s:Sim P N w0 S0 β σ a w){id ver E:Nat}{xs ys:List (List D)}{T ty:TypeId}{v u:Value}(hT:P.elemT T=some E)(hE:P.appOk E=true)(hid:σ.h id=some (.arr ver E xs))(hb:(xs.length+ys.length)*P.bytesOf E≤140737488351232)
  (hv:RepC P (Sd w0 S0 β σ.h w) β σ.h w (.gs id ver) v) (hu:∃A c,u= .slice A ys.length c∧RowOf (RDs P w (Sd w0 S0 β σ.h w)) (P.cellsOf E) (fun _=>True) w A ys):
  ∃v' w' β',(Builtin.append_ #[T,T] ty #[v,u]).run P w= .ok v' w'∧Sim P N w0 S0 β' (σ.new id (.arr (ver+1) E (xs++ys))) a w'∧RepC P (Sd w0 S0 β' (σ.new id (.arr (ver+1) E (xs++ys))).h w') β' (σ.new id (.arr (ver+1) E (xs++ys))).h w' (.gs id (ver+1)) v':=by
 obtain ⟨z,hi,hz,hp,hbp⟩:=zcd hE
 obtain ⟨ver',E',xs',h1,_,h3,_⟩:=hv
 rw[hid] at h1;cases h1
 have hv:=h3 rfl
 obtain ⟨hB,_,hlen⟩:=s.own id _ hid
 obtain ⟨A,c,rfl,hrow0⟩:=hu
 have hrow:RowOf (RDs P w fun b=>Sd w0 S0 β σ.h w b∧(β id).ownBlock≠some b) (P.cellsOf E) (fun _=>True) w A ys:=fun j x hj=>by
  obtain ⟨ad,cs,h1,h2,h3,h4⟩:=hrow0 j x hj
  exact ⟨ad,cs,h1,h2,All2.imp h3 fun d u _ k=>k.mono fun b hb=>⟨hb,fun hc=>hb.2.2 id _ hid (.inl (by
   obtain ⟨A,c,hs⟩:=hB.slice
   rw[hs] at hc ⊢;exact hc))⟩,h4⟩
 have hylen:∀y∈ys,y.length=P.cellsOf E:=fun y hy=>by
  obtain ⟨j,hj⟩:=List.getElem?_of_mem hy
  obtain ⟨ad,cs,_,_,hr,hl,_⟩:=hrow j y hj
  rw[←hl];exact All2.length hr
 obtain ⟨v',w',hrun,hB',hg,hat,A',c',hv'⟩:=Build.appRow (P:=P) (ty:=ty) (zr P) (zbv hT) hi hz hp hbp hB rfl hrow (c:=c) (fun y cs hy u hu=>by
  obtain ⟨i,hi⟩:=List.getElem?_of_mem hu
  obtain ⟨d,_,hd⟩:=All2.at' hy hi
  exact hd.one) trivial (by omega)
 have hbk:∀{x:Value} {b:Nat},(∃A n c,x= .slice A n c)→(bk x=some b↔x.ownBlock=some b):=by
  rintro x b ⟨A,n,c,rfl⟩;rfl
 have hsl:∃A n c,β id= .slice A n c:=by obtain ⟨A,c,hs⟩:=hB.slice;exact ⟨A,_,c,hs⟩
 have hsl':∃A n c,v'= .slice A n c:=⟨_,_,_,hv'⟩
 obtain ⟨s1,k⟩:=s.write (id:=id) (o':=.arr (ver+1) E (xs++ys)) (v':=v') (fun h=>by rw[hid] at h;cases h) (fun f xs h=>by rw[hid] at h;cases h) hg (fun b hb=>⟨_,hid,(hbk hsl).2 hb⟩) (fun b hb=>by
   have hb':=(hbk hsl').1 hb
   rcases hat with h|h
   ·exact .inl (by rw[←h];exact hb')
   ·rw[h] at hb';cases hb';exact .inr ⟨Nat.le_refl _,hB'.row_lt h⟩) (fun xs T h=>by rw[hid] at h;cases h) (fun ver2 E2 xs2 h=>by rw[hid] at h;cases h;exact ⟨_,_,_,rfl,by omega,fun h=>by omega⟩)
  fun hS k=>⟨hB'.frame (zr P) (fun _ _=>rfl) (fun _ _=>rfl) (fun _ h=>h) hS,by rw[List.length_append];exact hb,fun x hx=>by
   rcases List.mem_append.1 hx with h|h
   ·exact hlen x h
   ·exact hylen x h⟩
 refine ⟨v',w',_,by rw[hv];exact hrun,s1,ver+1,E,xs++ys,by rw[zt];simp,Nat.le_refl _,fun _=>by simp,by rw[hv'];rfl⟩
theorem Sim.make (s:Sim P N w0 S0 β σ a w){id E:Nat}{T:TypeId}{n:Nat}(hz0:id<zed)(hT:P.elemT T=some E)(hE:P.appOk E=true)(hid:σ.h id=none)(hb:P.bytesOf E*n≤281474976710656):
  ∃v' w' β',(Instr.makeSlice T (.int .i64 0) (.int .i64 (n:Int))).run P w= .ok v' w'∧Sim P N w0 S0 β' (σ.new id (.arr 0 E [])) a w'∧RepC P (Sd w0 S0 β' (σ.new id (.arr 0 E [])).h w') β' (σ.new id (.arr 0 E [])).h w' (.gs id 0) v':=by
 obtain ⟨z,hi,hz,hp,hbp⟩:=zcd hE
 obtain ⟨cur,hrun,hB⟩:=Build.make (P:=P) (R:=RDs P) (S:=fun _=>True) (T:=Sd w0 S0 β σ.h w) (zbv hT) hi hbp w n hb trivial
 obtain ⟨s1,k⟩:=s.write (id:=id) (o':=.arr 0 E []) (v':=.slice (some ⟨w.heap.size,0,none⟩) 0 n) (row:=none) (fun _=>hz0) (fun f xs h=>by rw[hid] at h;cases h) (World.grownBy_alloc w (.cells cur E) none) (fun b h=>by cases h) (fun b h=>by
   simp [bk,Value.ownBlock] at h;subst h;exact .inr ⟨Nat.le_refl _,by rw[zz];omega⟩) (fun xs T h=>by rw[hid] at h;cases h) (fun ver E xs h=>by rw[hid] at h;cases h)
  fun hS k=>⟨hB.frame (zr P) (fun _ _=>rfl) (fun _ _=>rfl) (fun _ h=>h) hS,by simp,by simp⟩
 exact ⟨_,_,_,hrun,s1,0,E,[],by rw[zt];simp,Nat.le_refl _,fun _=>by simp,rfl⟩
def zdt {α:Type}(n:Nat)(z:List α):List α:=(List.replicate n z).flatten
def zaI {α:Type}(n k:Nat)(xs:List α):List (List α):=(List.range n).map fun j=>(xs.drop (j*k)).take k
theorem zlG {R:List D→List Value→Prop}{n k:Nat}{ds:List D}{us:List Value}(hl:us.length=n*k)(h:∀j,j<n→R ((ds.drop (j*k)).take k) ((us.drop (j*k)).take k)):Elems R k (zaI n k ds) us:=by
 refine ⟨by simp [zaI,hl],fun j x hj=>?_⟩
 unfold zaI at hj
 rw[List.getElem?_map] at hj
 obtain ⟨i,hi,rfl⟩:=Option.map_eq_some_iff.1 hj
 obtain ⟨hlt,rfl⟩:=List.getElem?_eq_some_iff.1 hi
 simp only [List.length_range] at hlt
 simp only [List.getElem_range]
 exact h j hlt
theorem zn1 {α:Type}{z:List α}{k:Nat}(hz:z.length=k)(hk:0<k):∀(n i:Nat),i<n*k→(zdt n z)[i]? =z[i % k]?
 |0,i,h=>by simp at h
 |n+1,i,h=>by
  unfold zdt
  rw[List.replicate_succ,List.flatten_cons]
  rcases Nat.lt_or_ge i k with h1|h1
  ·rw[List.getElem?_append_left (by omega),Nat.mod_eq_of_lt h1]
  ·rw[List.getElem?_append_right (by omega)]
   have:=zn1 hz hk n (i - z.length) (by rw[hz];rw[Nat.add_mul] at h;omega)
   unfold zdt at this
   rw[this,hz]
   congr 1
   exact (Nat.mod_eq_sub_mod h1).symm
theorem zgN {α:Type}(n:Nat)(z:List α):(zdt n z).length=n*z.length:=by simp [zdt]
theorem Sim.literal (s:Sim P N w0 S0 β σ a w){id E n:Nat}{T:TypeId}{z r:List Cl}{ds:List D}{parts:List (Nat×Operand)}(hz0':id<zed)(hT:P.elemT T=some E)(hE:P.appOk E=true)(hz:ZB P E=some z)(hid:σ.h id=none)(hn:n*P.cellsOf E≤16777216)(hb:n*P.bytesOf E≤140737488351232)
  (hf:zb0 (fun i=>some (i*P.cellsOf E,P.cellsOf E)) (zdt n z) (parts.map fun p=>(p.1,σ.ev p.2))=some r) (hds:zc r=some ds):
  ∃v' w' β',(Instr.buildSlice T n (parts.toArray.map fun (i,x)=>(i,a.eval x))).run P w= .ok v' w'∧Sim P N w0 S0 β' (σ.new id (.arr 0 E (zaI n (P.cellsOf E) ds))) a w'∧RepC P (Sd w0 S0 β' (σ.new id (.arr 0 E (zaI n (P.cellsOf E) ds))).h w') β' (σ.new id (.arr 0 E (zaI n (P.cellsOf E) ds))).h w' (.gs id 0) v':=by
 obtain ⟨zv,hi,hzs,hp,hbp⟩:=zcd hE
 obtain ⟨i0,hi0,hzz⟩:=Option.map_eq_some_iff.1 hi
 simp only [Prod.mk.injEq] at hzz
 obtain ⟨hz0,hz1,hz2⟩:=hzz
 obtain ⟨i,z',hi',hzv',hr⟩:=zfd (S:=Sd w0 S0 β σ.h w) (β:=β) (hh:=σ.h) (w:=w) hz
 rw[hi0] at hi';cases hi'
 rw[hz0] at hzv';cases hzv'
 have hzl:z.length=P.cellsOf E:=by rw[hr.length,Array.length_toList,hzs]
 have hinit:All2 (RepC P (Sd w0 S0 β σ.h w) β σ.h w) (zdt n z) ((Array.range (n*P.cellsOf E)).map (zv.cells[· % zv.cells.size]!)).toList:=by
  refine All2.of (by rw[zgN,hzl];simp) fun j x u hj hu=>?_
  have hjl:=(List.getElem?_eq_some_iff.1 hj).1
  rw[zgN,hzl] at hjl
  rw[zn1 hzl hp n j hjl] at hj
  have hm:j % P.cellsOf E<zv.cells.size:=by rw[hzs];exact Nat.mod_lt _ hp
  have hu':u=zv.cells[j % P.cellsOf E]:=by
   simp [hjl,hzs] at hu
   rw[←hu,getElem!_pos zv.cells (j % P.cellsOf E) hm]
  obtain ⟨u2,hu2,hr2⟩:=hr.at hj
  rw[Array.getElem?_toList,Array.getElem?_eq_getElem hm] at hu2
  cases hu2
  rw[hu'];exact hr2
 have hparts:All2 (fun (p:Nat×Av) (q:Nat×Value)=>p.1=q.1∧RepA P (Sd w0 S0 β σ.h w) β σ.h w p.2 q.2) (parts.map fun p=>(p.1,σ.ev p.2)) (parts.map fun p=>(p.1,a.eval p.2)):=by
  refine All2.of (by simp) fun j p q hp hq=>?_
  rw[List.getElem?_map] at hp hq
  obtain ⟨x,hx,rfl⟩:=Option.map_eq_some_iff.1 hp
  rw[hx] at hq;cases hq
  exact ⟨rfl,s.ev x.2⟩
 obtain ⟨us,hfill,hus⟩:=zgf (place':=fun i=>some (i*P.cellsOf E,P.cellsOf E)) (fun i q h=>h) _ _ _ _ _ hparts hinit hf
 have hus2:=zeu hds hus
 have husz:us.size=n*P.cellsOf E:=by
  have:∀(vs:List (Nat×Value)) (cs cs':Array Value),Instr.fill (fun i=>some (i*P.cellsOf E,P.cellsOf E)) cs vs=some cs'→cs'.size=cs.size:=by
   intro vs
   induction vs with
   |nil=>intro cs cs' h;simp [Instr.fill] at h;rw[h]
   |cons q vs ih=>
    intro cs cs' h
    obtain ⟨i,v⟩:=q
    simp only [Instr.fill] at h
    split at h
    ·cases h
    ·rw[ih _ _ h]
     have:∀(l:List (Value×Nat)) (cs:Array Value),(l.foldl (fun cs (p:Value×Nat)=>cs.setIfInBounds (i*P.cellsOf E+p.2) p.1) cs).size=cs.size:=by
      intro l
      induction l with
      |nil=>intro cs;rfl
      |cons p l ih=>intro cs;rw[List.foldl_cons,ih];simp
     rw[←Array.foldl_toList]
     exact this _ _
  rw[this _ _ _ hfill];simp
 have hE2:=Ext.alloc (Ext.refl w) (.cells us E)
 have hrun:(Instr.buildSlice T n (parts.toArray.map fun (i,x)=>(i,a.eval x))).run P w= .ok (.slice (some ⟨w.heap.size,0,none⟩) n n) (w.alloc (.cells us E)):=by
  have hzr:(zeroValue E).run P w= .ok zv w:=by simp [zeroValue,typeInfo,hi0,hz0]
  have hsz:(sizeOf E).run P w= .ok (P.cellsOf E) w:=zc0 hp w
  unfold Instr.buildSlice
  simp only [Sem.run_bind,run_underlying (zbv hT),Result.andThen_ok,hsz]
  rw[if_neg (by omega)]
  have hpar:(parts.toArray.map fun (x:Nat×Operand)=>(x.1,a.eval x.2)).toList=parts.map fun p=>(p.1,a.eval p.2):=by simp
  by_cases h0:n*P.cellsOf E=0
  ·have e0:(Array.range 0).map (zv.cells[· % zv.cells.size]!)= #[]:=by simp
   rw[h0,e0] at hfill
   simp only [h0,if_true,Sem.run_bind,Sem.run_pure,Result.andThen_ok,hpar]
   rw[show ((Array.range 0).map fun x=>(#[]:Array Value)[x % (#[]:Array Value).size]!)= #[] from by simp,hfill]
   rfl
  ·simp only [if_neg h0,Sem.run_bind,Sem.run_pure,Result.andThen_ok,hzr,hpar,hfill]
   rfl
 have hB:Build (RDs P) E (P.cellsOf E) (fun _=>True) (Sd w0 S0 β σ.h w) (w.alloc (.cells us E)) (.slice (some ⟨w.heap.size,0,none⟩) n n) (zaI n (P.cellsOf E) ds):=by
  refine ⟨us.toList,⟨by rw[Array.length_toList,husz];simp [zaI],.inr ⟨w.heap.size,n,us,by simp [zaI],Nat.zero_le _,heap_alloc_new w _,by simp [zaI],by have:=Nat.le_mul_of_pos_right n hp;simp only [maxLen];omega,husz,?_⟩⟩,fun _ _=>trivial,?_⟩
  ·rw[List.take_of_length_le];rw[Array.length_toList,husz];simp [zaI]
  ·refine zlG (by rw[Array.length_toList,husz]) fun j hj=>?_
   refine ((hus2.drop _).take _).imp fun x u _ k=>(k.lt.ext hE2).mono fun b hb=>⟨hb.1,fun hc=>?_⟩
   simp [Value.ownBlock] at hc
   omega
 have hdl:ds.length=n*P.cellsOf E:=by rw[hus2.length,Array.length_toList,husz]
 obtain ⟨s1,k⟩:=s.write (id:=id) (o':=.arr 0 E (zaI n (P.cellsOf E) ds)) (v':=.slice (some ⟨w.heap.size,0,none⟩) n n) (row:=none) (fun _=>hz0') (fun f xs h=>by rw[hid] at h;cases h) (World.grownBy_alloc w (.cells us E) none) (fun b h=>by cases h) (fun b h=>by
   simp [bk,Value.ownBlock] at h;subst h;exact .inr ⟨Nat.le_refl _,by rw[zz];omega⟩) (fun xs T h=>by rw[hid] at h;cases h) (fun ver E xs h=>by rw[hid] at h;cases h)
  fun hS k=>⟨hB.frame (zr P) (fun _ _=>rfl) (fun _ _=>rfl) (fun _ h=>h) hS,by simpa [zaI] using hb,fun x hx=>by
   obtain ⟨j,hj,rfl⟩:=List.mem_map.1 hx
   have hj':=List.mem_range.1 hj
   have:j*P.cellsOf E+P.cellsOf E≤n*P.cellsOf E:=by rw[←Nat.succ_mul];exact Nat.mul_le_mul_right _ hj'
   rw[List.length_take,List.length_drop,hdl];omega⟩
 exact ⟨_,_,_,hrun,s1,0,E,zaI n (P.cellsOf E) ds,by rw[zt];simp,Nat.le_refl _,fun _=>by simp,rfl⟩
end
end Go.Smd
end
