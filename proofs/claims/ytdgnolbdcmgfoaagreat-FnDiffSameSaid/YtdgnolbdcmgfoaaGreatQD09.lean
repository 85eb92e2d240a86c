/- Part 9. -/
import Derived.Test.YtdgnolbdcmgfoaaGreatQD01
import Derived.Orders
import Derived.OrdersHeld
import Derived.Deep.Quiet
import Derived.BigQuiet
set_option linter.unusedVariables false
set_option linter.unusedSimpArgs false
set_option maxRecDepth 100000
set_option maxHeartbeats 8000000
section
namespace Go.Smd
open Go.RowKit
structure Grow (w:World) where
 val:World
 ext:Ext w val
instance (w:World):Nonempty (Grow w):=⟨⟨w,Ext.refl w⟩⟩
@[go_sem] theorem Grow.cellq {w:World}(g:Grow w)(a:Addr)(h:(w.cell? a).isSome=true):g.val.cell? a=w.cell? a:=by
 obtain ⟨v,hv⟩:=Option.isSome_iff_exists.1 h
 rw[g.ext.cell hv,hv]
def Cls (w:World):World→Prop:=fun w'=>∃g:Grow w,w'=g.val
@[go_sem] theorem zw0 (w w':World):Cls w w'=∃g:Grow w,w'=g.val:=rfl
section
variable {P:Program} {ops:Array Oper} {Q:Exit→Act→World→Prop} {B:List Nat}
def zbR (P:Program)(ops:Array Oper)(B:List Nat)(Q:Exit→Act→World→Prop):Nat→Array Bool→Act→World→Prop
 |0,listed,a,w=>Region.ready .any ops listed= []∧Q .normal a w
 |n+1,listed,a,w=>
  (Region.ready .any ops listed= []→Q .normal a w)∧
  ∀i∈Region.ready .any ops listed,wpOp P ops Q i (fun a' w'=>(B.contains i=false→Ext w w')∧zbR P ops B Q n (listed.setIfInBounds i true) a' w') a w
theorem zfl:∀(n:Nat) (listed:Array Bool) (a:Act) (w:World),zbR P ops B Q n listed a w→wpAny P .any ops Q n listed a w
 |0,_,_,_,h=>h
 |n+1,_,_,_,h=>⟨h.1,fun i hi=>wpOp_mono (fun a' w' k=>zfl n _ a' w' k.2) (h.2 i hi)⟩
theorem ZF {id:Nat}{a:Act}{w:World}(B:List Nat)(hm:P.follows .mixedOrders=true)(h:zbR P ops B Q ops.size (Array.replicate ops.size false) a w.drew):(Code.region id ops true).wp P Q a w:=
 wp_region_any hm (zfl _ _ _ _ h)
def zbO:Op→Bool
 | .move _| .assign _| .pick .. | .load .. | .nilCheck _| .binOp .. | .unOp .. | .convert .. | .fieldAddr .. | .field .. | .indexAddr .. | .index .. | .lookup .. | .extract .. | .slice .. | .makeInterface .. | .makeFunc .. | .typeAssert .. | .build .. =>true
 | .call { callee:=.builtin .len,.. }=>true
 | .call { callee:=.builtin .min,.. }=>true
 |_=>false
theorem zc3 {s:Sem Value}{w w':World}{n:Next}(h:((do let x ←s;pure (Next.value x)):Sem Next).run P w= .ok n w'):∃x,n= .value x:=by
 rw[Sem.run_bind] at h
 cases hs:s.run P w with
 |ok x w1=>rw[hs] at h;simp [Result.andThen] at h;exact ⟨x,h.1.symm⟩
 |halt x w1=>rw[hs] at h;simp [Result.andThen] at h
theorem zdo {α:Type}{s:Sem α}{f:α→Sem Next}{w w':World}{n:Next}(hf:∀a w1,(f a).run P w1= .ok n w'→∃x,n= .value x)(h:(s>>=f).run P w= .ok n w'):∃x,n= .value x:=by
 rw[Sem.run_bind] at h
 cases hs:s.run P w with
 |ok x w1=>rw[hs] at h;exact hf x w1 h
 |halt x w1=>rw[hs] at h;simp [Result.andThen] at h
theorem zcQ {α:Type}{w w':World}{n:α}(h:(runtimePanic .nilDeref:Sem α).run P w= .ok n w'):False:=by
 unfold runtimePanic at h
 simp [program,goPanic,Sem.run] at h
theorem zkJ {o:Oper}(ho:zbO o.op=true){ρ:Operand→Value}{w w':World}{n:Next}(h:(execOp ρ o).run P w= .ok n w'):∃x,n= .value x:=by
 obtain ⟨dst,op,type,pos,after,guard⟩:=o
 cases op<;>simp only [zbO,Bool.false_eq_true] at ho<;>simp only [execOp] at h
 case move x=>simp at h;exact ⟨_,h.1.symm⟩
 case assign x=>simp at h;exact ⟨_,h.1.symm⟩
 case pick c a b=>exact zdo (fun a w1 h=>by simp at h;exact ⟨_,h.1.symm⟩) h
 case nilCheck x=>
  split at h
  ·exact (zcQ h).elim
  ·exact (zcQ h).elim
  ·exact (zcQ h).elim
  ·split at h
   ·exact (zcQ h).elim
   ·exact zdo (fun a w1 h=>zdo (fun b w2 h=>by
     split at h
     ·simp [unsupported,Sem.run] at h
     ·simp at h;exact ⟨_,h.1.symm⟩) h) h
   ·simp at h;exact ⟨_,h.1.symm⟩
  ·simp at h;exact ⟨_,h.1.symm⟩
 case call c=>
  obtain ⟨callee,args,argTypes⟩:=c
  cases callee with
  |builtin b=>
   cases b<;>simp only [Bool.false_eq_true] at ho
   ·exact zc3 (s:=Builtin.len_ argTypes type (args.map ρ)) h
   ·exact zc3 (s:=Builtin.min_ argTypes type (args.map ρ)) h
  |value f=>simp at ho
  |invoke r m=>simp at ho
 all_goals exact zc3 h
theorem Cls.of {w w':World}(h:Ext w w'):Cls w w':=⟨⟨w',h⟩,rfl⟩
theorem zfJ {o:Oper}{a:Act}{w:World}{v:Value}(hv:zbO o.op=true)(hw:Region.wanted o (yielded ops a.tmps)=true)(h:∀w',Cls w w'→o.quietAt P a (Cls w) w' v):YieldsIf P ops (Ext w) o v a:=by
 refine .inl ⟨hw,fun w' hE=>?_⟩
 have h1:=h w' (Cls.of hE)
 unfold Oper.quietAt at h1
 generalize hr:(execOp a.eval o).run P w'=r at h1
 cases r with
 |ok n w''=>
  obtain ⟨x,rfl⟩:=zkJ hv hr
  simp only [Oper.quietUpon] at h1
  rw[h1.1,h1.2]
 |halt x w''=>simp only [Oper.quietUpon] at h1
def zax (ops:Array Oper):Nat→Nat→Nat→Bool
 |0,_,_=>false
 |k+1,j,i=>((ops[j]?).map fun o=>o.after.any fun e=>Region.binds .any e && (e.on==i||zax ops k e.on i)).getD false
def Closed (ops:Array Oper)(listed:Array Bool):Prop:=∀j o,ops[j]? =some o→listed.getD j false=true→∀e∈o.after,Region.binds .any e=true→listed.getD e.on false=true
theorem zac {listed:Array Bool}(hc:Closed ops listed){i:Nat}:∀(k j:Nat),zax ops k j i=true→(∀o,ops[j]? =some o→∀e∈o.after,Region.binds .any e=true→listed.getD e.on false=true)→listed.getD i false=true
 |0,_,h,_=>by simp [zax] at h
 |k+1,j,h,hj=>by
  cases ho:ops[j]? with
  |none=>simp [zax,ho] at h
  |some o=>
   simp only [zax,ho,Option.map_some,Option.getD_some] at h
   obtain ⟨e,he,hb⟩:=Array.any_eq_true'.1 h
   simp only [Bool.and_eq_true,Bool.or_eq_true,beq_iff_eq] at hb
   have hl:=hj o ho e he hb.1
   rcases hb.2 with rfl|hw
   ·exact hl
   ·exact zac hc k e.on hw fun o' ho'=>hc e.on o' ho' hl
theorem Closed.set {listed:Array Bool}(hc:Closed ops listed){i:Nat}(hi:i∈Region.ready .any ops listed):Closed ops (listed.setIfInBounds i true):=fun j o ho hl e he hb=>by
 refine getD_set_true ?_
 by_cases hij:i=j
 ·subst hij
  obtain ⟨_,o',ho',hall⟩:=mem_ready.1 hi
  rw[ho] at ho';cases ho'
  exact hall e he hb
 ·rw[getD_set_ne false hij] at hl
  exact hc j o ho hl e he hb
theorem zdy {listed:Array Bool}{i:Nat}(h0:listed.getD i true=false)(h1:listed.getD i false=true):False:=by
 rcases Nat.lt_or_ge i listed.size with h|h
 ·simp [h] at h0 h1;rw[h0] at h1;cases h1
 ·simp [Array.getElem?_eq_none h] at h1
theorem zfK {i:Nat}{oi:Oper}{v:Value}(hi:ops[i]? =some oi)(hsel:∀(j:Nat) (o:Oper) cs b,ops[j]? =some o→o.op≠ .select cs b)(hQ:∀c a w,Q (.panic c) (a.put oi.dst v) w→Q (.panic c) a w):
  ∀(n:Nat) (listed:Array Bool) (a:Act) (w:World),
   (∀j oj,ops[j]? =some oj→j≠i→listed.getD j true=false→(∀e∈oj.after,Region.binds .any e=true→e.on≠i)→oi.apart ops oj=true)→
   (∀j,B.contains j=true→j≠i→listed.getD j true=false→zax ops 64 j i=true)→Closed ops listed→
   i∈Region.ready .any ops listed→YieldsIf P ops (Ext w) oi v a→
   zbR P ops B Q n (listed.setIfInBounds i true) (a.put oi.dst v) w→zbR P ops B Q (n+1) listed a w:=by
 intro n
 induction n with
 |zero=>
  intro listed a w _ _ _ hr hy H
  refine ⟨fun h=>(by rw[h] at hr;cases hr),fun j hj=>?_⟩
  by_cases hji:j=i
  ·subst hji;exact hy.wpOp hi (Ext.refl w) ⟨fun _=>Ext.refl w,H⟩
  ·have:=ready_mono hj hji
   rw[H.1] at this
   cases this
 |succ n ih=>
  intro listed a w hfree hbar hcl hr hy H
  refine ⟨fun h=>(by rw[h] at hr;cases hr),fun j hj=>?_⟩
  by_cases hji:j=i
  ·subst hji;exact hy.wpOp hi (Ext.refl w) ⟨fun _=>Ext.refl w,H⟩
  ·have h1:=H.2 j (ready_mono hj hji)
   obtain ⟨hjun,oj,hoj,hall⟩:=mem_ready.1 hj
   have hnot:∀e∈oj.after,Region.binds .any e=true→e.on≠i:=fun e he hb heq=>by
    have h1:=hall e he hb
    rw[heq] at h1
    exact zdy (mem_ready.1 hr).1 h1
   have hap:=hfree j oj hoj hji hjun hnot
   have hnB:B.contains j=false:=by
    cases hc:B.contains j with
    |false=>rfl
    |true=>exact (zdy (mem_ready.1 hr).1 (zac hcl 64 j (hbar j hc hji hjun) fun o ho=>by rw[hoj] at ho;cases ho;exact hall)).elim
   have h2:=wpOp_putIf hoj hap (fun cs b=>hsel i oi cs b hi) (fun cs b=>hsel j oj cs b hoj) hQ hy h1
   have hfree':∀k ok,ops[k]? =some ok→k≠i→(listed.setIfInBounds j true).getD k true=false→(∀e∈ok.after,Region.binds .any e=true→e.on≠i)→oi.apart ops ok=true:=fun k ok hk hki hun hno=>by
    refine hfree k ok hk hki ?_ hno
    by_cases hjk:j=k
    ·subst hjk;exact hjun
    ·rw[getD_set_ne true hjk] at hun;exact hun
   have hbar':∀k,B.contains k=true→k≠i→(listed.setIfInBounds j true).getD k true=false→zax ops 64 k i=true:=fun k hk hki hun=>by
    refine hbar k hk hki ?_
    by_cases hjk:j=k
    ·subst hjk;exact hjun
    ·rw[getD_set_ne true hjk] at hun;exact hun
   refine wpOp_mono (fun a' w' h3=>?_) h2
   have hE:=h3.2.1 hnB
   refine ⟨fun _=>hE,ih (listed.setIfInBounds j true) a' w' hfree' hbar' (hcl.set hj) (ready_mono hr (Ne.symm hji)) ?_ ?_⟩
   ·rcases h3.1 with ⟨hw,hy'⟩|hn
    ·exact .inl ⟨hw,fun w2 h2=>hy' w2 (hE.trans h2)⟩
    ·exact .inr hn
   ·rw[Array.setIfInBounds_comm _ _ hji]
    exact h3.2.2
def lst (n:Nat)(done:List Nat):Array Bool:=(Array.range n).map fun i=>done.contains i
def zkK (ops:Array Oper)(B:List Nat)(listed:Array Bool)(i:Nat):Bool:=
 Region.free .any ops listed i && (Region.ready .any ops listed).contains i && ((ops[i]?).map fun o=>zbO o.op).getD false &&
 B.all fun j=>j==i||listed.getD j true||zax ops 64 j i
def zhl (ops:Array Oper)(B:List Nat):Array Bool→List Nat→Bool
 |_,[]=>true
 |listed,i::is=>zkK ops B listed i && zhl ops B (listed.setIfInBounds i true) is
def zd1:Array Bool→List Nat→Array Bool
 |listed,[]=>listed
 |listed,i::is=>zd1 (listed.setIfInBounds i true) is
theorem zjB (hQ:∀c (a:Act) t w,Q (.panic c) { a with tmps:=t } w→Q (.panic c) a w)(c:List PanicEntry)(a:Act)(d:Option Tmp)(v:Value)(w:World)(h:Q (.panic c) (a.put d v) w):Q (.panic c) a w:=by
 cases d with
 |none=>exact h
 |some d=>exact hQ c a _ w h
theorem zhT (hsel:Region.noSelect ops=true)(hQ:∀c (a:Act) t w,Q (.panic c) { a with tmps:=t } w→Q (.panic c) a w){w:World}:∀(is:List Nat) (n:Nat) (listed:Array Bool) (a:Act) (l:List Oper),
  is.map (ops[·]?)=l.map some→zhl ops B listed is=true→
  Closed ops listed→wpQuiet P ops (Cls w) (fun a'=>zbR P ops B Q n (zd1 listed is) a' w) l a→zbR P ops B Q (n+is.length) listed a w
 | [],n,listed,a,l,hl,_,_,h=>by
  cases l with
  |nil=>exact h
  |cons o l=>simp at hl
 |i::is,n,listed,a,l,hl,hok,hcl,h=>by
  cases l with
  |nil=>simp at hl
  |cons o l=>
   simp only [List.map_cons,List.cons.injEq] at hl
   simp only [zhl,Bool.and_eq_true] at hok
   obtain ⟨hok,hok'⟩:=hok
   simp only [zkK,Bool.and_eq_true] at hok
   obtain ⟨⟨⟨hf,hr⟩,hvo⟩,hB⟩:=hok
   have hfree:∀j oj,ops[j]? =some oj→j≠i→listed.getD j true=false→(∀e∈oj.after,Region.binds .any e=true→e.on≠i)→o.apart ops oj=true:=fun j oj hj hne hun hno=>Region.free_spec hl.1 hf j oj hj hne hun hno
   have hbar:∀j,B.contains j=true→j≠i→listed.getD j true=false→zax ops 64 j i=true:=fun j hc hne hun=>by
    have:=List.all_eq_true.1 hB j (by simpa using hc)
    simp only [hun,Bool.or_false,Bool.or_eq_true,beq_iff_eq,hne,false_or] at this
    exact this
   have hcl':=hcl.set (i:=i) (by simpa using hr)
   simp only [hl.1,Option.map_some,Option.getD_some] at hvo
   show zbR P ops B Q (n+(is.length+1)) listed a w
   rw[←Nat.add_assoc]
   unfold wpQuiet at h
   split at h
   ·next hw=>
    obtain ⟨v,hv,h⟩:=h
    exact zfK hl.1 (Region.noSelect_spec hsel) (fun c a w=>zjB hQ c a _ _ w) _ _ _ _ hfree hbar hcl (by simpa using hr) (zfJ hvo hw hv) (zhT hsel hQ is n _ _ l hl.2 hok' hcl' h)
   ·next hw=>
    exact zfK hl.1 (Region.noSelect_spec hsel) (fun c a w=>zjB hQ c a _ _ w) _ _ _ _ hfree hbar hcl (by simpa using hr) (.inr ⟨by simpa using hw,rfl⟩) (zhT hsel hQ is n _ _ l hl.2 hok' hcl' h)
def zn6 (ops:Array Oper)(listed:Array Bool):Bool:=(List.range ops.size).all fun j=> !listed.getD j false||((ops[j]?).map fun o=>o.after.all fun e=> !Region.binds .any e||listed.getD e.on false).getD true
theorem zkL {listed:Array Bool}(h:zn6 ops listed=true):Closed ops listed:=fun j o ho hl e he hb=>by
 have h1:=List.all_eq_true.1 h j (List.mem_range.2 (Array.getElem?_eq_some_iff.1 ho).1)
 simp only [hl,ho,Bool.not_true,Bool.false_or,Option.map_some,Option.getD_some] at h1
 have:=Array.all_eq_true_iff_forall_mem.1 h1 e he
 simpa [hb] using this
def zoU (P:Program)(ops:Array Oper)(C:World→Prop)(K:Act→Prop):List Nat→Act→Prop
 | [],a=>K a
 |i::is,a=>∃o,ops[i]? =some o∧wpQuiet P ops C (zoU P ops C K is) [o] a
def nth:List Oper→Nat→Option Oper
 | [],_=>none
 |o::_,0=>some o
 |_::l,i+1=>nth l i
theorem zmY:∀(l:List Oper) (i:Nat),nth l i=l[i]?
 | [],i=>by simp [nth]
 |o::l,0=>by simp [nth]
 |o::l,i+1=>by simp [nth,zmY l i]
theorem ZQ {i:Nat}{o:Oper}(h:nth ops.toList i=some o):ops[i]? =some o:=by rw[zmY] at h;simpa using h
theorem zV {C:World→Prop}{K:Act→Prop}{i:Nat}{is:List Nat}{a:Act}{o:Oper}(ho:nth ops.toList i=some o)(h:wpQuiet P ops C (zoU P ops C K is) [o] a):zoU P ops C K (i::is) a:=⟨o,ZQ ho,h⟩
theorem Zf {C:World→Prop}{K:Act→Prop}{a:Act}(h:K a):zoU P ops C K [] a:=h
theorem zgm {C:World→Prop}{K:Act→Prop}:∀(is:List Nat) (a:Act),zoU P ops C K is a→∃l,is.map (ops[·]?)=l.map some∧wpQuiet P ops C K l a
 | [],a,h=>⟨[],rfl,h⟩
 |i::is,a,⟨o,ho,h⟩=>by
  unfold wpQuiet at h
  split at h
  ·next hw=>
   obtain ⟨v,hv,h⟩:=h
   obtain ⟨l,hl,h⟩:=zgm is _ h
   exact ⟨o::l,by simp [ho,hl],by unfold wpQuiet;rw[if_pos hw];exact ⟨v,hv,h⟩⟩
  ·next hw=>
   obtain ⟨l,hl,h⟩:=zgm is _ h
   exact ⟨o::l,by simp [ho,hl],by unfold wpQuiet;rw[if_neg hw];exact h⟩
theorem ZA {w:World}{m:Nat}{listed listed':Array Bool}{a:Act}(is:List Nat)(n:Nat)(hsel:Region.noSelect ops=true)(hQ:∀c (a:Act) t w,Q (.panic c) { a with tmps:=t } w→Q (.panic c) a w)
  (hok:(zhl ops B listed is && zn6 ops listed)=true) (hm:m=n+is.length) (hli:zd1 listed is=listed')
  (h:zoU P ops (Cls w) (fun a'=>zbR P ops B Q n listed' a' w) is a):zbR P ops B Q m listed a w:=by
 subst hm;subst hli
 simp only [Bool.and_eq_true] at hok
 obtain ⟨l,hl,hq⟩:=zgm is a h
 exact zhT hsel hQ is n listed a l hl hok.1 (zkL hok.2) hq
theorem zfL {i:Nat}{o:Oper}{K:Act→World→Prop}{a:Act}{w:World}(ho:ops[i]? =some o)(h:wpList P ops (Exit.then K Q) [o] a w):wpOp P ops Q i K a w:=by
 unfold wpOp
 simp only [ho]
 unfold wpList at h
 split
 ·next hw=>
  rw[if_pos hw] at h
  refine h.imp (fun h=>?_) fun ⟨h1,a',w',h2⟩=>⟨h1,a',w',h2⟩
  unfold Oper.wp at*
  generalize (execOp a.eval o).run P w=r at*
  cases r with
  |ok nx w1=>
   cases nx<;>simp only [Oper.upon] at h ⊢ <;>first
    |exact h
    |exact Calls.mono h fun e w'' he=>by cases e<;>exact he
    |exact Rows.mono h fun _ _ he=>he
  |halt x w1=>cases x<;>simp only [Oper.upon] at h ⊢ <;>exact h
 ·next hw=>rw[if_neg hw] at h;exact h
theorem zjC {w:World}{n m i:Nat}{o:Oper}{listed listed':Array Bool}{a:Act}(hr:Region.ready .any ops listed= [i])(ho':nth ops.toList i=some o)(hm:m=n+1)(hli:listed.setIfInBounds i true=listed')
  (h:wpList P ops (Exit.then (fun a' w'=>Ext w w'∧zbR P ops B Q n listed' a' w') Q) [o] a w):zbR P ops B Q m listed a w:=by
 have ho:=ZQ ho'
 subst hm;subst hli
 refine ⟨fun h0=>by rw[h0] at hr;simp at hr,fun j hj=>?_⟩
 rw[hr] at hj;simp at hj;subst hj
 exact wpOp_mono (fun _ _ k=>⟨fun _=>k.1,k.2⟩) (zfL ho h)
theorem zca {w:World}{n m i:Nat}{o:Oper}{listed listed':Array Bool}{a:Act}(hr:Region.ready .any ops listed= [i])(hB:B.contains i=true)(ho':nth ops.toList i=some o)(hm:m=n+1)(hli:listed.setIfInBounds i true=listed')
  (h:wpList P ops (Exit.then (fun a' w'=>zbR P ops B Q n listed' a' w') Q) [o] a w):zbR P ops B Q m listed a w:=by
 have ho:=ZQ ho'
 subst hm;subst hli
 refine ⟨fun h0=>by rw[h0] at hr;simp at hr,fun j hj=>?_⟩
 rw[hr] at hj;simp at hj;subst hj
 exact wpOp_mono (fun _ _ k=>⟨fun hb=>(by rw[hB] at hb;cases hb),k⟩) (zfL ho h)
theorem zhU {K:Act→World→Prop}{a:Act}{w:World}(h:K a w):wpList P ops (Exit.then K Q) [] a w:=h
theorem zcf {w:World}{m:Nat}{listed:Array Bool}{a:Act}(hr:Region.ready .any ops listed= [])(h:Q .normal a w):zbR P ops B Q m listed a w:=by
 cases m with
 |zero=>exact ⟨hr,h⟩
 |succ n=>exact ⟨fun _=>h,fun j hj=>by rw[hr] at hj;cases hj⟩
end
end Go.Smd
end
