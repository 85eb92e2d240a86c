/- Part 1. -/
import Derived.Handy
import Derived.WalkSpells
import Derived.WalkLawsBesides
import Derived.Lib.Hide
import Derived.Deep.LoopGhost
import Derived.Deep.RegionHeld3
import Derived.Deep.QuietTactic
import Derived.BigQuiet
import Derived.Deep.DeepMust
import Derived.Deep.Cut
import Derived.Deep.DeepFit
import Derived.Test.YtdgnolbdcmgfoaaGreatProg
import Derived.Deep.AppendLies
import Derived.Maps.AppendAt
set_option linter.unusedVariables false
set_option linter.unusedSimpArgs false
set_option maxRecDepth 100000
set_option maxHeartbeats 8000000
section
namespace Go.Smd
open Go.RowKit
def Ext (w w':World):Prop:=Below w.heap.size w w'
theorem Ext.refl (w:World):Ext w w:=Below.refl _ _
theorem Ext.trans {a b c:World}(h:Ext a b)(k:Ext b c):Ext a c:=Below.trans h (Below.mono k h.size)
theorem Ext.below {w w':World}(h:Ext w w'){B:Nat}(hB:B≤w.heap.size):Below B w w':=Below.mono h hB
theorem Ext.heap {w w':World}(h:Ext w w'){b:Nat}{o:Obj}(hb:w.heap[b]? =some o):w'.heap[b]? =some o:=
 (h.block b (Array.getElem?_eq_some_iff.1 hb).1).trans hb
theorem Ext.cell {w w':World}(h:Ext w w'){a:Addr}{v:Value}(hc:w.cell? a=some v):w'.cell? a=some v:=
 (Below.cell h (World.block_lt_of_cell? w a hc)).trans hc
theorem Ext.alloc {a w:World}(h:Ext a w)(o:Obj):Ext a (w.alloc o):=Below.alloc h h.size o
theorem Ext.drew {a w:World}(h:Ext a w):Ext a w.drew:=Below.drew h
theorem Ext.drewN {a w:World}(h:Ext a w)(n:Nat):Ext a (w.drewN n):=⟨h.os,h.tape,h.output,h.size,h.block⟩
theorem Ext.setCell {a w:World}(h:Ext a w){p:Addr}(hp:a.heap.size≤p.block)(u:Value):Ext a (w.setCell p u):=Below.setCell h hp u
theorem Ext.size {w w':World}(h:Ext w w'):w.heap.size≤w'.heap.size:=Below.size h
theorem Ext.cells {w w':World}(h:Ext w w'):(∀b o,b<w.heap.size→w'.cell? ⟨b,o,none⟩=w.cell? ⟨b,o,none⟩)∧(∀b o,b<w.heap.size→w'.frozen? ⟨b,o,none⟩=w.frozen? ⟨b,o,none⟩):=
 ⟨fun b o hb=>Below.cell h (p:=⟨b,o,none⟩) hb,fun b o hb=>Below.frozen h (p:=⟨b,o,none⟩) hb⟩
theorem zz (w:World)(o:Obj):(w.alloc o).heap.size=w.heap.size+1:=by simp
theorem zbP {w:World}(o:Obj){n:Nat}(h:w.heap.size=n):(w.alloc o).heap[n]? =some o:=by subst h;exact heap_alloc_new w o
theorem zeq {w:World}(o:Obj){n:Nat}{p:Obj}(h:w.heap[n]? =some p):(w.alloc o).heap[n]? =some p:=((Ext.refl w).alloc o).heap h
def Same (S:Nat→Prop)(w w':World):Prop:=∀b,S b→w'.heap[b]? =w.heap[b]?
theorem Same.cell {S:Nat→Prop}{w w':World}(h:Same S w w'){a:Addr}(ha:S a.block){v:Value}(hc:w.cell? a=some v):w'.cell? a=some v:=(World.cell?_of_block (w:=w) (h _ ha)).trans hc
theorem Same.mono {S S':Nat→Prop}{w w':World}(h:Same S w w')(hs:∀b,S' b→S b):Same S' w w':=fun b hb=>h b (hs b hb)
def CellsAt (w:World)(a:Addr)(cs:List Value):Prop:=∀i u,cs[i]? =some u→w.cell? (a.add i)=some u
theorem CellsAt.ext {w w':World}{a:Addr}{cs:List Value}(h:CellsAt w a cs)(e:Ext w w'):CellsAt w' a cs:=fun i u hu=>e.cell (h i u hu)
theorem zB (a:Addr)(n:Nat):(a.add n).block=a.block:=by unfold Addr.add;split<;>rfl
theorem CellsAt.frame {S:Nat→Prop}{w w':World}{a:Addr}{cs:List Value}(h:CellsAt w a cs)(e:Same S w w')(ha:S a.block):CellsAt w' a cs:=fun i u hu=>e.cell (by rw[zB];exact ha) (h i u hu)
theorem CellsAt.six {w:World}{a:Addr}{c0 c1 c2 c3 c4 c5:Value}(h:CellsAt w a [c0,c1,c2,c3,c4,c5]):
  w.cell? a=some c0∧w.cell? ⟨a.block,a.off+1,none⟩=some c1∧w.cell? ⟨a.block,a.off+2,none⟩=some c2∧w.cell? ⟨a.block,a.off+3,none⟩=some c3∧w.cell? ⟨a.block,a.off+4,none⟩=some c4∧w.cell? ⟨a.block,a.off+5,none⟩=some c5:=
 ⟨by simpa [Addr.add] using h 0 c0 rfl,by simpa [Addr.add] using h 1 c1 rfl,by simpa [Addr.add] using h 2 c2 rfl,by simpa [Addr.add] using h 3 c3 rfl,by simpa [Addr.add] using h 4 c4 rfl,by simpa [Addr.add] using h 5 c5 rfl⟩
def RowOf {α:Type}(R:α→List Value→Prop)(size:Nat)(S:Nat→Prop)(w:World)(A:Option Addr)(xs:List α):Prop:=
 ∀j x,xs[j]? =some x→∃ad cs,A=some ad∧S ad.block∧R x cs∧cs.length=size∧CellsAt w (ad.add (j*size)) cs
theorem RowOf.nil {α:Type}{R:α→List Value→Prop}{size:Nat}{S:Nat→Prop}{w:World}{A:Option Addr}:RowOf R size S w A []:=fun j x h=>by simp at h
theorem RowOf.imp {α:Type}{R R':α→List Value→Prop}{size:Nat}{S:Nat→Prop}{w w':World}{A:Option Addr}{xs:List α}(h:RowOf R size S w A xs)(e:Ext w w')(hR:∀x∈xs,∀cs,R x cs→R' x cs):RowOf R' size S w' A xs:=fun j x hj=>by
 obtain ⟨ad,cs,ha,hs,hr,hl,hc⟩:=h j x hj
 exact ⟨ad,cs,ha,hs,hR x (List.mem_of_getElem? hj) cs hr,hl,hc.ext e⟩
theorem RowOf.frame {α:Type}{R R':α→List Value→Prop}{size:Nat}{S S':Nat→Prop}{w w':World}{A:Option Addr}{xs:List α}(h:RowOf R size S w A xs)(e:Same S w w')(hS:∀b,S b→S' b)(hR:∀x∈xs,∀cs,R x cs→R' x cs):RowOf R' size S' w' A xs:=fun j x hj=>by
 obtain ⟨ad,cs,ha,hs,hr,hl,hc⟩:=h j x hj
 exact ⟨ad,cs,ha,hS _ hs,hR x (List.mem_of_getElem? hj) cs hr,hl,hc.frame e (by rw[zB];exact hs)⟩
def zoI (s:ByteArray)(cs:List Value):Prop:=cs= [.string s]
def RepStrs (S:Nat→Prop)(w:World)(A:Option Addr)(ss:List ByteArray):Prop:=RowOf zoI 1 S w A ss
theorem RepStrs.ext {S:Nat→Prop}{w w':World}{A:Option Addr}{ss:List ByteArray}(h:RepStrs S w A ss)(e:Ext w w'):RepStrs S w' A ss:=RowOf.imp h e fun _ _ _ k=>k
theorem RepStrs.frame {S S':Nat→Prop}{w w':World}{A:Option Addr}{ss:List ByteArray}(h:RepStrs S w A ss)(e:Same S w w')(hS:∀b,S b→S' b):RepStrs S' w' A ss:=RowOf.frame h e hS fun _ _ _ k=>k
theorem RepStrs.at {S:Nat→Prop}{w:World}{A:Option Addr}{ss:List ByteArray}(h:RepStrs S w A ss){j:Nat}{s:ByteArray}(hj:ss[j]? =some s):∃ad,A=some ad∧w.cell? (ad.add j)=some (.string s):=by
 obtain ⟨ad,cs,ha,_,rfl,_,hc⟩:=h j s hj
 refine ⟨ad,ha,?_⟩
 have:=hc 0 _ rfl
 simpa [Addr.add] using this
inductive GV where
 |mk (kind n:Int) (f:Nat) (s:ByteArray) (keys:List ByteArray) (l:List GV)
theorem GV.ind {P:GV→Prop}(h:∀kind n f s keys l,(∀x∈l,P x)→P (.mk kind n f s keys l)):∀v,P v
 | .mk kind n f s keys l=>h kind n f s keys l fun x _hx=>GV.ind h x
termination_by v=>SizeOf.sizeOf v
decreasing_by
 have:=List.sizeOf_lt_of_mem _hx
 simp;omega
structure GVok (kind n:Int) (f:Nat) (s:ByteArray) (keys:List ByteArray) (l:List GV):Prop where
 okKind: -9223372036854775808≤kind∧kind≤9223372036854775807
 okN: -9223372036854775808≤n∧n≤9223372036854775807
 okF:f<18446744073709551616
 okS:s.size≤140737488351232
 okKeys:keys.length*16≤140737488351232
 okEach:∀k∈keys,k.size≤140737488351232
 okL:l.length*88≤140737488351232
inductive RepGV (S:Nat→Prop) (w:World):GV→List Value→Prop
 |mk {kind n:Int} {f:Nat} {s:ByteArray} {keys:List ByteArray} {l:List GV} {ka la:Option Addr} {kc lc:Nat}
   (ok:GVok kind n f s keys l) (hkc:keys.length≤kc) (hlc:l.length≤lc) (hk:RepStrs S w ka keys)
   (ll:Nat→List Value) (hl:∀j x,l[j]? =some x→RepGV S w x (ll j))
   (hc:∀j x,l[j]? =some x→∃ad,la=some ad∧S ad.block∧CellsAt w (ad.add (j*6)) (ll j)):
   RepGV S w (.mk kind n f s keys l) [.int .i64 kind,.int .i64 n,.float .f64 f,.string s,.slice ka keys.length kc,.slice la l.length lc]
def RepGVs (S:Nat→Prop)(w:World)(A:Option Addr)(l:List GV):Prop:=RowOf (RepGV S w) 6 S w A l
theorem RepGV.ext {S:Nat→Prop}{w w':World}(e:Ext w w'){v:GV}{cs:List Value}(h:RepGV S w v cs):RepGV S w' v cs:=by
 induction h with
 |mk ok hkc hlc hk ll hl hc ih=>
  exact .mk ok hkc hlc (hk.ext e) ll ih fun j x hj=>by
   obtain ⟨ad,ha,hs,hcs⟩:=hc j x hj
   exact ⟨ad,ha,hs,hcs.ext e⟩
theorem RepGV.frame {S S':Nat→Prop}{w w':World}(e:Same S w w')(hS:∀b,S b→S' b){v:GV}{cs:List Value}(h:RepGV S w v cs):RepGV S' w' v cs:=by
 induction h with
 |mk ok hkc hlc hk ll hl hc ih=>
  exact .mk ok hkc hlc (hk.frame e hS) ll ih fun j x hj=>by
   obtain ⟨ad,ha,hs,hcs⟩:=hc j x hj
   exact ⟨ad,ha,hS _ hs,hcs.frame e (by rw[zB];exact hs)⟩
theorem RepGV.mono {S S':Nat→Prop}{w:World}{v:GV}{cs:List Value}(h:RepGV S w v cs)(hS:∀b,S b→S' b):RepGV S' w v cs:=h.frame (fun _ _=>rfl) hS
theorem RepGV.length {S:Nat→Prop}{w:World}{v:GV}{cs:List Value}(h:RepGV S w v cs):cs.length=6:=by cases h;rfl
theorem RepGVs.ext {S:Nat→Prop}{w w':World}{A:Option Addr}{l:List GV}(h:RepGVs S w A l)(e:Ext w w'):RepGVs S w' A l:=RowOf.imp h e fun _ _ _ k=>k.ext e
theorem RepGVs.frame {S S':Nat→Prop}{w w':World}{A:Option Addr}{l:List GV}(h:RepGVs S w A l)(e:Same S w w')(hS:∀b,S b→S' b):RepGVs S' w' A l:=RowOf.frame h e hS fun _ _ _ k=>k.frame e hS
theorem RepGV.open {S:Nat→Prop}{w:World}{kind n:Int}{f:Nat}{s:ByteArray}{keys:List ByteArray}{l:List GV}{cs:List Value}(h:RepGV S w (.mk kind n f s keys l) cs):
  ∃ka kc la lc,cs= [.int .i64 kind,.int .i64 n,.float .f64 f,.string s,.slice ka keys.length kc,.slice la l.length lc]∧GVok kind n f s keys l∧keys.length≤kc∧l.length≤lc∧RepStrs S w ka keys∧RepGVs S w la l:=by
 cases h with
 |mk ok hkc hlc hk ll hl hc=>
  refine ⟨_,_,_,_,rfl,ok,hkc,hlc,hk,fun j x hj=>?_⟩
  obtain ⟨ad,ha,hs,hcs⟩:=hc j x hj
  exact ⟨ad,ll j,ha,hs,hl j x hj,(hl j x hj).length,hcs⟩
theorem RepGV.close {S:Nat→Prop}{w:World}{kind n:Int}{f:Nat}{s:ByteArray}{keys:List ByteArray}{l:List GV}{ka la:Option Addr}{kc lc:Nat}(ok:GVok kind n f s keys l)(hkc:keys.length≤kc)(hlc:l.length≤lc)(hk:RepStrs S w ka keys)(hl:RepGVs S w la l):
  RepGV S w (.mk kind n f s keys l) [.int .i64 kind,.int .i64 n,.float .f64 f,.string s,.slice ka keys.length kc,.slice la l.length lc]:=by
 have key:∀j:Nat,∃cs,∀x,l[j]? =some x→RepGV S w x cs∧∃ad,la=some ad∧S ad.block∧CellsAt w (ad.add (j*6)) cs:=fun j=>by
  cases hj:l[j]? with
  |none=>exact ⟨[],fun x hx=>by cases hx⟩
  |some x=>
   obtain ⟨ad,cs,ha,hs,hr,_,hc⟩:=hl j x hj
   exact ⟨cs,fun y hy=>by cases hy;exact ⟨hr,ad,ha,hs,hc⟩⟩
 exact .mk ok hkc hlc hk (fun j=>Classical.choose (key j)) (fun j x hj=>(Classical.choose_spec (key j) x hj).1) (fun j x hj=>(Classical.choose_spec (key j) x hj).2)
theorem RepGVs.at {S:Nat→Prop}{w:World}{A:Option Addr}{l:List GV}(h:RepGVs S w A l){j:Nat}{x:GV}(hj:l[j]? =some x):
  ∃ad c0 c1 c2 c3 c4 c5,A=some ad∧S ad.block∧RepGV S w x [c0,c1,c2,c3,c4,c5]∧CellsAt w (ad.add (j*6)) [c0,c1,c2,c3,c4,c5]:=by
 obtain ⟨ad,cs,ha,hs,hr,hl,hc⟩:=h j x hj
 match cs,hl with
 | [c0,c1,c2,c3,c4,c5],_=>exact ⟨ad,c0,c1,c2,c3,c4,c5,ha,hs,hr,hc⟩
theorem RepGV.ones {S:Nat→Prop}{w:World}{v:GV}{cs:List Value}(h:RepGV S w v cs):∀u∈cs,u.oneCell'=true:=by
 cases h;simp [Value.oneCell']
theorem RepGV.list6 {S:Nat→Prop}{w:World}{v:GV}{cs:List Value}(h:RepGV S w v cs):∃c0 c1 c2 c3 c4 c5,cs= [c0,c1,c2,c3,c4,c5]:=by
 cases h;exact ⟨_,_,_,_,_,_,rfl⟩
theorem RepGV.six {S:Nat→Prop}{w:World}{v:GV}{c0 c1 c2 c3 c4 c5:Value}(h:RepGV S w v [c0,c1,c2,c3,c4,c5]):
  c0.oneCell'=true∧c1.oneCell'=true∧c2.oneCell'=true∧c3.oneCell'=true∧c4.oneCell'=true∧c5.oneCell'=true:=by
 have:=h.ones;simpa using this
theorem zjm {v:Value}(h:v.oneCell'=true):v.cells= #[v]:=by cases v<;>first|rfl|simp [Value.oneCell'] at h
@[go_sem] theorem zpY (P:Program)(w:World)(a:Addr)(k:FloatKind)(n:Nat)(m:Mode):(store a (.float k n) m).run P w=stored P w a (.float k n) m:=run_store P w a _ m rfl
@[go_sem] theorem zsC (P:Program)(w:World)(a:Addr)(r:Option Nat)(m:Mode):(store a (.map r) m).run P w=stored P w a (.map r) m:=run_store P w a _ m rfl
@[go_sem] theorem zsD (P:Program)(w:World)(a:Addr)(v:Value)(m:Mode)(hv:v.oneCell'=true):(store a v m).run P w=stored P w a v m:=run_store P w a v m hv
inductive Tree where
 |nil
 |bool (b:Bool)
 |int (n:Int)
 |float (f:Nat)
 |str (s:ByteArray)
 |list (l:List Tree)
 |map (m:List (ByteArray×Tree))
inductive RepT (w:World):(Nat→Prop)→Tree→Value→Prop
 |nil {S:Nat→Prop}:RepT w S .nil .nilIface
 |bool {S:Nat→Prop} (b:Bool):RepT w S (.bool b) (.iface 4 (.bool b))
 |int {S:Nat→Prop} {n:Int} (h: -9223372036854775808≤n∧n≤9223372036854775807):RepT w S (.int n) (.iface 2 (.int .i64 n))
 |float {S:Nat→Prop} {f:Nat} (h:f<18446744073709551616):RepT w S (.float f) (.iface 25 (.float .f64 f))
 |str {S:Nat→Prop} {s:ByteArray} (h:s.size≤140737488351232):RepT w S (.str s) (.iface 9 (.string s))
 |list {S:Nat→Prop} {l:List Tree} {A:Option Addr} {c:Nat} (ll:Nat→Value) (hlen:l.length*16≤140737488351232) (hcap:l.length≤c) (hn:A.isSome=true)
   (hl:∀j x,l[j]? =some x→RepT w S x (ll j)) (hc:∀j x,l[j]? =some x→∃ad,A=some ad∧S ad.block∧w.cell? (ad.add j)=some (ll j)):
   RepT w S (.list l) (.iface 259 (.slice A l.length c))
 |map {S:Nat→Prop} {m:List (ByteArray×Tree)} {r:Nat} {es:List MapEntry} {clock:Nat} (hS:S r) (hr:w.heap[r]? =some (.map es.toArray clock))
   (hm:m.length≤140737488351232) (hk:es.map (·.key)=m.map fun p=>Value.string p.1) (hs:∀p∈m,p.1.size≤140737488351232)
   (hb:(es.map (·.born)).Pairwise (· < ·)) (hbc:∀e∈es,e.born<clock)
   (hv:∀(j:Nat) (p:ByteArray×Tree) (e:MapEntry),m[j]? =some p→es[j]? =some e→RepT w (fun b=>S b∧b≠r) p.2 e.val):
   RepT w S (.map m) (.iface 276 (.map (some r)))
theorem RepT.ext {w w':World}(e:Ext w w'){S:Nat→Prop}{t:Tree}{x:Value}(h:RepT w S t x):RepT w' S t x:=by
 induction h with
 |nil=>exact .nil
 |bool b=>exact .bool b
 |int h=>exact .int h
 |float h=>exact .float h
 |str h=>exact .str h
 |list ll hlen hcap hn hl hc ih=>
  exact .list ll hlen hcap hn ih fun j x hj=>by
   obtain ⟨ad,ha,hs,hcs⟩:=hc j x hj
   exact ⟨ad,ha,hs,e.cell hcs⟩
 |map hS hr hm hk hs hb hbc hv ih=>exact .map hS (e.heap hr) hm hk hs hb hbc ih
theorem RepT.frame {w w':World}{S:Nat→Prop}{t:Tree}{x:Value}(h:RepT w S t x):∀{S':Nat→Prop},Same S w w'→(∀b,S b→S' b)→RepT w' S' t x:=by
 induction h with
 |nil=>exact fun _ _=>.nil
 |bool b=>exact fun _ _=>.bool b
 |int h=>exact fun _ _=>.int h
 |float h=>exact fun _ _=>.float h
 |str h=>exact fun _ _=>.str h
 |list ll hlen hcap hn hl hc ih=>
  intro S' e hS'
  exact .list ll hlen hcap hn (fun j x hj=>ih j x hj e hS') fun j x hj=>by
   obtain ⟨ad,ha,hs,hcs⟩:=hc j x hj
   exact ⟨ad,ha,hS' _ hs,e.cell (by rw[zB];exact hs) hcs⟩
 |map hS hr hm hk hs hb hbc hv ih=>
  intro S' e hS'
  exact .map (hS' _ hS) ((e _ hS).trans hr) hm hk hs hb hbc fun j p en hp he=>ih j p en hp he (e.mono fun _ h=>h.1) fun b h=>⟨hS' _ h.1,h.2⟩
theorem RepT.mono {w:World}{S S':Nat→Prop}{t:Tree}{x:Value}(h:RepT w S t x)(hS:∀b,S b→S' b):RepT w S' t x:=h.frame (fun _ _=>rfl) hS
theorem RepT.form {w:World}{S:Nat→Prop}{t:Tree}{x:Value}(h:RepT w S t x):x= .nilIface∨∃T y,x= .iface T y:=by
 cases h<;>simp
def RepV (w:World)(S:Nat→Prop)(t:Tree)(v:Value):Prop:=∃a x,v= .iface 271 (.pointer (some ⟨a,0,none⟩))∧S a∧w.cell? ⟨a,0,none⟩=some x∧RepT w S t x
theorem RepV.ext {w w':World}(e:Ext w w'){S:Nat→Prop}{t:Tree}{v:Value}(h:RepV w S t v):RepV w' S t v:=by
 obtain ⟨a,x,rfl,hs,hc,hx⟩:=h
 exact ⟨a,x,rfl,hs,e.cell hc,hx.ext e⟩
theorem RepV.frame {w w':World}{S S':Nat→Prop}{t:Tree}{v:Value}(h:RepV w S t v)(e:Same S w w')(hS:∀b,S b→S' b):RepV w' S' t v:=by
 obtain ⟨a,x,rfl,hs,hc,hx⟩:=h
 exact ⟨a,x,rfl,hS _ hs,e.cell hs hc,hx.frame e hS⟩
def Gives (v:Value)(w:World)(e:Ending)(w':World):Prop:=e= .returned v∧w=w'
theorem Gives.bool {b b':Bool}{w:World}(h:b=b'):Gives (.bool b') w (.returned (.bool b)) w:=⟨by rw[h],rfl⟩
theorem Gives.int {k:IntKind}{b b':Int}{w:World}(h:b=b'):Gives (.int k b') w (.returned (.int k b)) w:=⟨by rw[h],rfl⟩
def Makes (Q:World→Value→Prop)(w:World)(e:Ending)(w':World):Prop:=∃v,e= .returned v∧Q w' v∧Ext w w'
theorem Makes.mk {Q:World→Value→Prop}{w w':World}{v:Value}(h:Q w' v)(e:Ext w w'):Makes Q w (.returned v) w':=⟨v,rfl,h,e⟩
end Go.Smd
end
section
namespace Go.Smd
open Go.RowKit Go.Proofs Go.Proofs.Tryz
def put (w:World)(r:Nat)(o:Obj):World:={ w with heap:=w.heap.setIfInBounds r o }
theorem zht (w:World)(r:Nat)(o:Obj):(put w r o).heap.size=w.heap.size:=by simp [put]
theorem zuN {w:World}{r:Nat}(o:Obj)(h:r<w.heap.size):(put w r o).heap[r]? =some o:=by simp [put,h]
theorem zeQ (w:World){r b:Nat}(o:Obj)(h:b≠r):(put w r o).heap[b]? =w.heap[b]? :=by
 simp only [put,Array.getElem?_setIfInBounds];rw[if_neg (Ne.symm h)]
theorem Ext.put {a w:World}(h:Ext a w){r:Nat}(hr:a.heap.size≤r)(o:Obj):Ext a (put w r o):=
 Below.trans h ⟨rfl,rfl,rfl,by rw[zht];exact Nat.le_refl _,fun k hk=>zeQ w o (by omega)⟩
theorem zoJ {B:Nat}{a w:World}(h:Below B a w){r:Nat}(hr:B≤r)(o:Obj):Below B a (put w r o):=
 Below.trans h ⟨rfl,rfl,rfl,by rw[zht];exact Nat.le_refl _,fun k hk=>zeQ w o (by omega)⟩
def zdm (k:ByteArray)(v:Value)(clock:Nat):List ByteArray→List MapEntry→List MapEntry
 |q::ks,e::es=>if q=k then { e with key:=.string k,val:=v }::es else e::zdm k v clock ks es
 |_,es=>es++ [{ key:=.string k,val:=v,born:=clock }]
def zaX (k:ByteArray):List ByteArray→Option Nat
 | []=>none
 |q::ks=>if q=k then some 0 else (zaX k ks).map (· +1)
theorem znW (a b:ByteArray):(a==b)=decide (a=b):=by
 cases a with
 |mk a=>
  cases b with
  |mk b=>
   show (a==b)=_
   by_cases h:a=b
   ·subst h;simp
   ·rw[decide_eq_false (by simp [h])];exact beq_eq_false_iff_ne.2 h
theorem zgK (k:ByteArray):∀(ks:List ByteArray) (es:List MapEntry) (i:Nat),es.map (·.key)=ks.map Value.string→
  Instr.findNow .string (.string k) es i=some ((zaX k ks).bind fun j=>(es[j]?).map fun e=>(i+j,e.val))
 | [],[],i,_=>by simp [Instr.findNow,zaX]
 | [],e::es,i,h=>by simp at h
 |q::ks,[],i,h=>by simp at h
 |q::ks,e::es,i,h=>by
  simp only [List.map_cons,List.cons.injEq] at h
  obtain ⟨h1,h2⟩:=h
  simp only [Instr.findNow,h1,Instr.sameNow,znW,zaX]
  by_cases hq:q=k
  ·simp [hq]
  ·have hq':¬k=q:=fun e=>hq e.symm
   simp only [hq',decide_false,hq,if_false]
   rw[zgK k ks es (i+1) h2]
   cases zaX k ks<;>simp [Nat.add_assoc,Nat.add_comm 1]
theorem zkv {P:Program}{k:TypeId}(hk:P.underlying k=some .string)(b:Bool)(n:Nat)(s:ByteArray)(w:World):
  (Instr.checkKey b (n+1) k (.string s)).run P w= .ok () w:=by
 simp [Instr.checkKey,run_underlying hk]
theorem zlu {k:ByteArray}:∀{ks:List ByteArray} {i:Nat},zaX k ks=some i→ks[i]? =some k
 | [],i,h=>by simp [zaX] at h
 |q::ks,i,h=>by
  simp only [zaX] at h
  split at h
  ·next e=>cases h;simp [e]
  ·cases hj:zaX k ks with
   |none=>simp [hj] at h
   |some j=>simp [hj] at h;subst h;simpa using zlu hj
theorem zjn {k:ByteArray}{v:Value}{clock:Nat}:∀{ks:List ByteArray} {es:List MapEntry} {i:Nat},es.length=ks.length→zaX k ks=some i→
  zdm k v clock ks es=es.modify i fun e=>{ e with key:=.string k,val:=v }
 | [],es,i,_,h=>by simp [zaX] at h
 |q::ks,[],i,hl,h=>by simp at hl
 |q::ks,e::es,i,hl,h=>by
  simp only [zaX] at h
  split at h
  ·next e'=>cases h;simp [zdm,e']
  ·next hq=>
   cases hj:zaX k ks with
   |none=>simp [hj] at h
   |some j=>
    simp [hj] at h;subst h
    simp [zdm,hq,zjn (v:=v) (clock:=clock) (es:=es) (by simpa using hl) hj]
theorem zjo {k:ByteArray}{v:Value}{clock:Nat}:∀{ks:List ByteArray} {es:List MapEntry},es.length=ks.length→zaX k ks=none→
  zdm k v clock ks es=es++ [{ key:=.string k,val:=v,born:=clock }]
 | [],es,_,h=>by simp [zdm]
 |q::ks,[],hl,h=>by simp at hl
 |q::ks,e::es,hl,h=>by
  simp only [zaX] at h
  split at h
  ·cases h
  ·next hq=>
   have hj:zaX k ks=none:=by cases hj:zaX k ks<;>simp_all
   simp [zdm,hq,zjo (v:=v) (clock:=clock) (es:=es) (by simpa using hl) hj]
theorem zfB {P:Program}{t k e:TypeId}(ht:P.underlying t=some (.map k e))(hk:P.underlying k=some .string){w:World}{r:Nat}{es:List MapEntry}{clock:Nat}{ks:List ByteArray}
  (hr:w.heap[r]? =some (.map es.toArray clock)) (hks:es.map (·.key)=ks.map Value.string) (s:ByteArray) (v:Value):
  (Instr.mapUpdate t (.map (some r)) (.string s) v).run P w= .ok () (put w r (.map (zdm s v clock ks es).toArray (if (zaX s ks).isSome then clock else clock+1))):=by
 have hl:es.length=ks.length:=by have:=congrArg List.length hks;simpa using this
 have hf:=zgK s ks es 0 hks
 unfold Instr.mapUpdate
 simp only [run_underlying ht,Sem.run_bind,Result.andThen_ok,getObj,Sem.run,hr,Instr.findKey,run_underlying hk,zkv hk false 9999]
 rw[hf]
 cases hi:zaX s ks with
 |none=>
  simp [zjo hl hi,setObj,Sem.run,hr,put]
 |some i=>
  have h1:=zlu hi
  have h2:i<es.length:=by rw[hl];exact (List.getElem?_eq_some_iff.1 h1).1
  have h3:(es.map (·.key))[i]? =some (.string s):=by rw[hks];simp [h1]
  have h4:es[i].key= .string s:=by simpa [List.getElem?_eq_getElem h2] using h3
  simp [zjn hl hi,List.getElem?_eq_getElem h2,Instr.keyThatStays,h4,Instr.sameBits,znW,setObj,Sem.run,hr,put]
abbrev zaR:=List (ByteArray×Tree)
def ins (k:ByteArray)(t:Tree):zaR→zaR
 | []=>[(k,t)]
 |p::m=>if p.1=k then (k,t)::m else p::ins k t m
theorem zcG (k:ByteArray)(t:Tree):∀m:zaR,(ins k t m).length≤m.length+1
 | []=>by simp [ins]
 |p::m=>by
  simp only [ins];split
  ·simp
  ·have:=zcG k t m;simp;omega
theorem zjp {k:ByteArray}{v:Value}{clock:Nat}(t:Tree):∀{m:zaR} {es:List MapEntry},es.map (·.key)=m.map (fun p=>Value.string p.1)→
  (zdm k v clock (m.map (·.1)) es).map (·.key)=(ins k t m).map fun p=>Value.string p.1
 | [],[],_=>by simp [zdm,ins]
 | [],e::es,h=>by simp at h
 |p::m,[],h=>by simp at h
 |p::m,e::es,h=>by
  simp only [List.map_cons,List.cons.injEq] at h
  simp only [List.map_cons,zdm,ins]
  split
  ·next e'=>simp [h.2]
  ·simp [h.1,zjp (k:=k) (v:=v) (clock:=clock) t h.2]
theorem zjq {k:ByteArray}{v:Value}{clock:Nat}:∀{ks:List ByteArray} {es:List MapEntry},es.length=ks.length→
  (zdm k v clock ks es).map (·.born)=if (zaX k ks).isSome then es.map (·.born) else es.map (·.born)++ [clock]
 | [],[],_=>by simp [zdm,zaX]
 | [],e::es,h=>by simp at h
 |q::ks,[],h=>by simp at h
 |q::ks,e::es,h=>by
  simp only [zdm,zaX]
  split
  ·simp
  ·simp only [List.map_cons,Option.isSome_map]
   rw[zjq (k:=k) (v:=v) (clock:=clock) (by simpa using h)]
   split<;>simp
theorem zjr {R:Tree→Value→Prop}{k:ByteArray}{v:Value}{clock:Nat}{t:Tree}(hv:R t v):∀{m:zaR} {es:List MapEntry},es.length=m.length→
  (∀(j:Nat) (p:ByteArray×Tree) (e:MapEntry),m[j]? =some p→es[j]? =some e→R p.2 e.val)→
  ∀(j:Nat) (p:ByteArray×Tree) (e:MapEntry),(ins k t m)[j]? =some p→(zdm k v clock (m.map (·.1)) es)[j]? =some e→R p.2 e.val
 | [],[],_,h,j,p,e,hp,he=>by
  cases j with
  |zero=>simp [ins,zdm] at hp he;subst hp;subst he;exact hv
  |succ j=>simp [ins] at hp
 | [],e::es,hl,_,_,_,_,_,_=>by simp at hl
 |p::m,[],hl,_,_,_,_,_,_=>by simp at hl
 |q::m,e0::es,hl,h,j,p,e,hp,he=>by
  simp only [List.map_cons,zdm,ins] at hp he
  split at hp
  ·next hq=>
   rw[if_pos hq] at he
   cases j with
   |zero=>simp at hp he;subst hp;subst he;exact hv
   |succ j=>exact h (j+1) p e (by simpa using hp) (by simpa using he)
  ·next hq=>
   rw[if_neg hq] at he
   cases j with
   |zero=>exact h 0 p e (by simpa using hp) (by simpa using he)
   |succ j=>exact zjr hv (by simpa using hl) (fun j p e hp he=>h (j+1) p e (by simpa using hp) (by simpa using he)) j p e (by simpa using hp) (by simpa using he)
theorem zlv {k:ByteArray}{v:Value}{clock:Nat}:∀{ks:List ByteArray} {es:List MapEntry},es.length=ks.length→∀e∈zdm k v clock ks es,(∃e'∈es,e.born=e'.born)∨(e.born=clock∧zaX k ks=none)
 | [],[],_,e,he=>by simp [zdm] at he;subst he;exact .inr ⟨rfl,rfl⟩
 | [],e0::es,h,_,_=>by simp at h
 |q::ks,[],h,_,_=>by simp at h
 |q::ks,e0::es,hl,e,he=>by
  simp only [zdm] at he
  split at he
  ·rcases List.mem_cons.1 he with rfl|he
   ·exact .inl ⟨e0,by simp,rfl⟩
   ·exact .inl ⟨e,by simp [he],rfl⟩
  ·next hq=>
   rcases List.mem_cons.1 he with rfl|he
   ·exact .inl ⟨e,by simp,rfl⟩
   ·rcases zlv (k:=k) (v:=v) (clock:=clock) (by simpa using hl) e he with ⟨e',he',hb⟩|⟨hb,hn⟩
    ·exact .inl ⟨e',by simp [he'],hb⟩
    ·exact .inr ⟨hb,by simp [zaX,hq,hn]⟩
theorem znX {k:ByteArray}{t:Tree}:∀{m:zaR} {p:ByteArray×Tree},p∈ins k t m→p=(k,t)∨p∈m
 | [],p,h=>by simp [ins] at h;exact .inl h
 |q::m,p,h=>by
  simp only [ins] at h
  split at h
  ·rcases List.mem_cons.1 h with h|h
   ·exact .inl h
   ·exact .inr (by simp [h])
  ·rcases List.mem_cons.1 h with h|h
   ·exact .inr (by simp [h])
   ·rcases znX h with h|h
    ·exact .inl h
    ·exact .inr (by simp [h])
theorem zuO {S:Nat→Prop}{w:World}{m:zaR}{r:Nat}(h:RepT w S (.map m) (.iface 276 (.map (some r)))){k:ByteArray}{t:Tree}{x:Value}
  (hx:RepT w (fun b=>S b∧b≠r) t x) (hk:k.size≤140737488351232) (hm:m.length+1≤140737488351232):
  ∃o,(Instr.mapUpdate 276 (.map (some r)) (.string k) x).run prog w= .ok () (put w r o)∧RepT (put w r o) S (.map (ins k t m)) (.iface 276 (.map (some r))):=by
 cases h with
 | @map _ _ _ es clock hS hr _ hkeys hs hb hbc hval=>
  have hl:es.length=m.length:=by have:=congrArg List.length hkeys;simpa using this
  refine ⟨_,zfB underlying276 underlying9 hr (ks:=m.map (·.1)) (by rw[hkeys];simp) k x,?_⟩
  have hlt:r<w.heap.size:=(Array.getElem?_eq_some_iff.1 hr).1
  refine .map hS (zuN _ hlt) ?_ (zjp t hkeys) ?_ ?_ ?_ ?_
  ·have:=zcG k t m;omega
  ·intro p hp
   rcases znX hp with rfl|hp
   ·exact hk
   ·exact hs p hp
  ·rw[zjq (by simpa using hl)]
   split
   ·exact hb
   ·rw[List.pairwise_append]
    refine ⟨hb,by simp,fun a ha b hb'=>?_⟩
    obtain ⟨e,he,rfl⟩:=List.mem_map.1 ha
    simp at hb';subst hb';exact hbc e he
  ·intro e he
   rcases zlv (by simpa using hl) e he with ⟨e',he',hbe⟩|⟨hbe,hn⟩
   ·have:=hbc e' he';rw[hbe];split<;>omega
   ·rw[hbe,hn];simp
  ·have e:Same (fun b=>S b∧b≠r) w (put w r (.map (zdm k x clock (m.map (·.1)) es).toArray (if (zaX k (m.map (·.1))).isSome then clock else clock+1))):=fun b hb=>zeQ w _ hb.2
   exact zjr (R:=fun t v=>RepT (put w r _) (fun b=>S b∧b≠r) t v) (hx.frame e fun _ h=>h) hl fun j p en hp he=>(hval j p en hp he).frame e fun _ h=>h
theorem zdO {w:World}{a:Addr}{v:Value}(h:w.cell? a=some v):a.block<w.heap.size:=World.block_lt_of_cell? w a h
theorem CellsAt.lt {w:World}{a:Addr}{cs:List Value}(h:CellsAt w a cs)(hc:0<cs.length):a.block<w.heap.size:=by
 have:=zdO (h 0 cs[0] (List.getElem?_eq_getElem hc))
 rwa[zB] at this
theorem RowOf.lt {α:Type}{R R':α→List Value→Prop}{size:Nat}(hz:0<size){S:Nat→Prop}{w:World}{A:Option Addr}{xs:List α}(h:RowOf R size S w A xs)(hR:∀x∈xs,∀cs,R x cs→R' x cs):RowOf R' size (fun b=>S b∧b<w.heap.size) w A xs:=fun j x hj=>by
 obtain ⟨ad,cs,ha,hs,hr,hl,hc⟩:=h j x hj
 have:=hc.lt (by omega)
 rw[zB] at this
 exact ⟨ad,cs,ha,⟨hs,this⟩,hR x (List.mem_of_getElem? hj) cs hr,hl,hc⟩
theorem RepStrs.lt {S:Nat→Prop}{w:World}{A:Option Addr}{ss:List ByteArray}(h:RepStrs S w A ss):RepStrs (fun b=>S b∧b<w.heap.size) w A ss:=RowOf.lt (by omega) h fun _ _ _ k=>k
theorem RepGV.lt {S:Nat→Prop}{w:World}{v:GV}{cs:List Value}(h:RepGV S w v cs):RepGV (fun b=>S b∧b<w.heap.size) w v cs:=by
 induction h with
 |mk ok hkc hlc hk ll hl hc ih=>
  refine .mk ok hkc hlc hk.lt ll ih fun j x hj=>?_
  obtain ⟨ad,ha,hs,hcs⟩:=hc j x hj
  have:=hcs.lt (by rw[(hl j x hj).length];omega)
  rw[zB] at this
  exact ⟨ad,ha,⟨hs,this⟩,hcs⟩
theorem RepGVs.lt {S:Nat→Prop}{w:World}{A:Option Addr}{l:List GV}(h:RepGVs S w A l):RepGVs (fun b=>S b∧b<w.heap.size) w A l:=RowOf.lt (by omega) h fun _ _ _ k=>k.lt
theorem RepT.lt {w:World}{S:Nat→Prop}{t:Tree}{x:Value}(h:RepT w S t x):RepT w (fun b=>S b∧b<w.heap.size) t x:=by
 induction h with
 |nil=>exact .nil
 |bool b=>exact .bool b
 |int h=>exact .int h
 |float h=>exact .float h
 |str h=>exact .str h
 |list ll hlen hcap hn hl hc ih=>
  refine .list ll hlen hcap hn ih fun j x hj=>?_
  obtain ⟨ad,ha,hs,hcs⟩:=hc j x hj
  have:=zdO hcs
  rw[zB] at this
  exact ⟨ad,ha,⟨hs,this⟩,hcs⟩
 |map hS hr hm hk hs hb hbc hv ih=>
  exact .map ⟨hS,(Array.getElem?_eq_some_iff.1 hr).1⟩ hr hm hk hs hb hbc fun j p en hp he=>(ih j p en hp he).mono fun b h=>⟨⟨h.1.1,h.2⟩,h.1.2⟩
theorem RowOf.take {α:Type}{R:α→List Value→Prop}{size:Nat}{S:Nat→Prop}{w:World}{A:Option Addr}{xs:List α}(h:RowOf R size S w A xs)(n:Nat):RowOf R size S w A (xs.take n):=fun j x hj=>by
 rw[List.getElem?_take] at hj
 split at hj
 ·exact h j x hj
 ·cases hj
theorem zeR (a:Addr)(n m:Nat):(a.add n).add m=a.add (n+m):=by
 unfold Addr.add
 by_cases h1:n=0<;>by_cases h2:m=0<;>simp [h1,h2,Nat.add_assoc]
theorem RowOf.drop {α:Type}{R:α→List Value→Prop}{size:Nat}{S:Nat→Prop}{w:World}{A:Option Addr}{xs:List α}(h:RowOf R size S w A xs){n c:Nat}(hc:xs.length≤c):RowOf R size S w (if c=n then A else A.map (·.add (n*size))) (xs.drop n):=fun j x hj=>by
 rw[List.getElem?_drop] at hj
 have hlt:=(List.getElem?_eq_some_iff.1 hj).1
 obtain ⟨ad,cs,rfl,hs,hr,hl,hcs⟩:=h (n+j) x hj
 rw[if_neg (by omega)]
 refine ⟨ad.add (n*size),cs,rfl,by rw[zB];exact hs,hr,hl,?_⟩
 rw[zeR,←Nat.add_mul];exact hcs
theorem zdP {P:Program}(t e:TypeId){size:Nat}(ht:P.underlying t=some (.slice e))(hi:(P.info? e).map (·.size)=some size)(A:Option Addr)(n c m:Nat)(k:Int)(hk:k=(m:Int))(hm:m≤n):
  ∃A':Option Addr,(∀W:World,(Instr.slice t (.slice A n c) (some (.int .i64 k)) none none).run P W= .ok (.slice A' (n - m) (c - m)) W)∧
   ∀{α:Type} {R:α→List Value→Prop} {S:Nat→Prop} {w:World} {xs:List α},xs.length≤c→RowOf R size S w A xs→RowOf R size S w A' (xs.drop m):=by
 subst hk
 obtain ⟨i,hi',rfl⟩:=Option.map_eq_some_iff.1 hi
 refine ⟨if c=m then A else A.map (·.add (m*i.size)),fun W=>?_,fun hc h=>h.drop hc⟩
 have hel:P.elem t=e:=by simp [Program.elem,ht]
 have hu:P.underlying t=some (.slice (P.elem t)):=by rw[hel];exact ht
 rw[run_slice_l W t A n c hu .i64 (m:Int) (Int.natCast_nonneg _) (by omega),hel]
 simp [sizeOf,typeInfo,hi',sliced,Result.andThen]
structure Framed {α:Type} (R:World→(Nat→Prop)→α→List Value→Prop):Prop where
 frame:∀{w w':World} {S S':Nat→Prop} {x:α} {c:List Value},R w S x c→Same S w w'→(∀b,S b→S' b)→R w' S' x c
 lt:∀{w:World} {S:Nat→Prop} {x:α} {c:List Value},R w S x c→R w (fun b=>S b∧b<w.heap.size) x c
theorem Framed.ext {α:Type}{R:World→(Nat→Prop)→α→List Value→Prop}(F:Framed R){w w':World}{S:Nat→Prop}{x:α}{c:List Value}(h:R w S x c)(e:Ext w w'):R w' S x c:=
 F.frame (F.lt h) (fun b hb=>Below.block e b hb.2) fun _ hb=>hb.1
def RT (w:World)(S:Nat→Prop)(t:Tree)(cs:List Value):Prop:=∃x,cs= [x]∧RepT w S t x
def RG (w:World)(S:Nat→Prop)(v:GV)(cs:List Value):Prop:=RepGV S w v cs
def RS (_w:World)(_S:Nat→Prop)(s:ByteArray)(cs:List Value):Prop:=zoI s cs
theorem zhu:Framed RT:=⟨fun ⟨x,hx,h⟩ e hs=>⟨x,hx,h.frame e hs⟩,fun ⟨x,hx,h⟩=>⟨x,hx,h.lt⟩⟩
theorem zbI:Framed RG:=⟨fun h e hs=>RepGV.frame e hs h,fun h=>RepGV.lt h⟩
theorem zcY:Framed RS:=⟨fun h _ _=>h,fun h=>h⟩
theorem List.reverseRecOn' {α:Type}{motive:List α→Prop}(xs:List α)(nil:motive [])(snoc:∀ys y,motive ys→motive (ys++ [y])):motive xs:=by
 have:∀ys:List α,motive ys.reverse:=fun ys=>by
  induction ys with
  |nil=>exact nil
  |cons y ys ih=>rw[List.reverse_cons];exact snoc _ _ ih
 have h:=this xs.reverse
 rwa[List.reverse_reverse] at h
def Elems {α:Type}(R:α→List Value→Prop)(size:Nat)(xs:List α)(cs:List Value):Prop:=
 cs.length=xs.length*size∧∀j x,xs[j]? =some x→R x ((cs.drop (j*size)).take size)
theorem Elems.nil {α:Type}(R:α→List Value→Prop)(size:Nat):Elems R size [] []:=⟨by simp,fun j p h=>by simp at h⟩
theorem Elems.imp {α:Type}{R R':α→List Value→Prop}{size:Nat}{xs:List α}{cs:List Value}(h:Elems R size xs cs)(hR:∀x c,R x c→R' x c):Elems R' size xs cs:=⟨h.1,fun j x hj=>hR _ _ (h.2 j x hj)⟩
theorem Elems.app {α:Type}{R:α→List Value→Prop}{size:Nat}{xs ys:List α}{cs ds:List Value}(h:Elems R size xs cs)(k:Elems R size ys ds):Elems R size (xs++ys) (cs++ds):=by
 refine ⟨by rw[List.length_append,h.1,k.1,List.length_append,Nat.add_mul],fun j q hq=>?_⟩
 rcases Nat.lt_or_ge j xs.length with hj|hj
 ·rw[List.getElem?_append_left hj] at hq
  have h1:j*size+size≤cs.length:=by rw[h.1,←Nat.succ_mul];exact Nat.mul_le_mul_right _ hj
  rw[List.drop_append_of_le_length (by omega),List.take_append_of_le_length (by rw[List.length_drop];omega)]
  exact h.2 j q hq
 ·rw[List.getElem?_append_right hj] at hq
  have e:j*size=cs.length+(j - xs.length)*size:=by rw[h.1,←Nat.add_mul];congr 1;omega
  rw[e,←List.drop_drop,List.drop_left]
  exact k.2 _ q hq
theorem Elems.one {α:Type}{R:α→List Value→Prop}{size:Nat}{y:α}{c:List Value}(h:R y c)(hc:c.length=size):Elems R size [y] c:=by
 refine ⟨by simp [hc],fun j q hq=>?_⟩
 cases j with
 |zero=>simp at hq;subst hq;simpa [←hc] using h
 |succ j=>simp at hq
def Build {α:Type}(R:World→(Nat→Prop)→α→List Value→Prop)(e size:Nat)(S T:Nat→Prop)(w:World)(v:Value)(xs:List α):Prop:=
 ∃cs,w.ownsRow 0 e size v xs.length cs∧(∀k,v.ownBlock=some k→S k)∧Elems (R w fun b=>T b∧v.ownBlock≠some b) size xs cs
section
variable {α:Type} {R:World→(Nat→Prop)→α→List Value→Prop} {e size:Nat} {S T:Nat→Prop} {w:World} {v:Value} {xs:List α}
theorem Build.nil:Build R e size S T w (.slice none 0 0) []:=⟨[],World.ownsRow_nil w 0 e size,fun k hk=>by simp [Value.ownBlock] at hk,Elems.nil _ _⟩
theorem Build.row_lt (h:Build R e size S T w v xs){k:Nat}(hk:v.ownBlock=some k):k<w.heap.size:=by
 obtain ⟨cs,ho,_⟩:=h
 exact (ho.lt k hk).2
theorem Build.row_in (h:Build R e size S T w v xs){k:Nat}(hk:v.ownBlock=some k):S k:=by
 obtain ⟨cs,_,hb,_⟩:=h
 exact hb k hk
theorem Build.row_ne {β:Type}{R':World→(Nat→Prop)→β→List Value→Prop}{e' size':Nat}{S' T':Nat→Prop}{v':Value}{ys:List β}(h:Build R e size S T w v xs)(h':Build R' e' size' S' T' w v' ys)(hne:e≠e'):v.ownBlock=none∨v.ownBlock≠v'.ownBlock:=by
 obtain ⟨cs,ho,_⟩:=h
 obtain ⟨cs',ho',_⟩:=h'
 rcases ho.2 with ⟨rfl,_⟩|⟨g,cap,cur,rfl,_,hh,_⟩
 ·exact .inl rfl
 ·refine .inr fun hk=>?_
  rcases ho'.2 with ⟨rfl,_⟩|⟨g',cap',cur',rfl,_,hh',_⟩
  ·simp [Value.ownBlock] at hk
  ·have:g=g':=by simpa [Value.ownBlock] using hk
   subst this
   rw[hh] at hh'
   injection hh' with hh'
   injection hh' with _ ht
   exact hne ht
theorem Build.frame (F:Framed R){w':World}{S' T':Nat→Prop}(h:Build R e size S T w v xs)(hs:Same S w w')(ht:Same (fun b=>T b∧v.ownBlock≠some b) w w')(hS:∀b,S b→S' b)(hT:∀b,T b→T' b):Build R e size S' T' w' v xs:=by
 obtain ⟨cs,ho,hb,he⟩:=h
 refine ⟨cs,⟨ho.1,?_⟩,fun k hk=>hS k (hb k hk),he.imp fun x c hx=>F.frame hx ht fun b h=>⟨hT b h.1,h.2⟩⟩
 rcases ho.2 with h0|⟨g,cap,cur,rfl,h1,h2,h3⟩
 ·exact .inl h0
 ·exact .inr ⟨g,cap,cur,rfl,h1,(hs g (hb g rfl)).trans h2,h3⟩
theorem Build.lt (F:Framed R)(h:Build R e size S T w v xs):Build R e size (fun b=>S b∧b<w.heap.size) (fun b=>T b∧b<w.heap.size) w v xs:=by
 have hr:=fun k hk=>h.row_lt (k:=k) hk
 obtain ⟨cs,ho,hb,he⟩:=h
 exact ⟨cs,ho,fun k hk=>⟨hb k hk,hr k hk⟩,he.imp fun x c hx=>F.frame (F.lt hx) (fun _ _=>rfl) fun b h=>⟨⟨h.1.1,h.2⟩,h.1.2⟩⟩
theorem Build.ext (F:Framed R){w':World}(h:Build R e size S T w v xs)(x:Ext w w'):Build R e size S T w' v xs:=
 (h.lt F).frame F (fun b hb=>Below.block x b hb.2) (fun b hb=>Below.block x b hb.1.2) (fun _ hb=>hb.1) fun _ hb=>hb.1
theorem Build.other (F:Framed R){w':World}{row:Option Nat}(h:Build R e size S T w v xs)(hg:w.grownBy w' row)(hr:v.ownBlock=none∨v.ownBlock≠row)(hT:∀k,row=some k→¬T k):Build R e size S T w' v xs:=by
 have h':=h.lt F
 obtain ⟨cs,ho,hb,he⟩:=h'
 refine ⟨cs,ho.kept hg hr,fun k hk=>(hb k hk).1,he.imp fun x c hx=>F.frame hx (fun b hb=>hg.block b hb.1.2 fun hc=>hT b hc.symm hb.1.1) fun b h=>⟨h.1.1,h.2⟩⟩
theorem Build.slice (h:Build R e size S T w v xs):∃A c,v= .slice A xs.length c:=by
 obtain ⟨cs,ho,_⟩:=h
 rcases ho.2 with ⟨rfl,h0⟩|⟨g,cap,cur,rfl,_⟩
 ·exact ⟨none,0,by rw[h0]⟩
 ·exact ⟨_,cap,rfl⟩
theorem Build.one (h:Build R e size S T w v xs):v.oneCell'=true:=by
 obtain ⟨A,c,rfl⟩:=h.slice;rfl
theorem Build.done (F:Framed R)(hz:0<size)(h:Build R e size S T w v xs):∃A c,v= .slice A xs.length c∧xs.length≤c∧RowOf (R w T) size S w A xs:=by
 obtain ⟨cs,ho,hb,he⟩:=h
 have hc:=ho
 rcases ho.2 with ⟨rfl,h0⟩|⟨g,cap,cur,rfl,_,hg,hn,_⟩
 ·obtain rfl:=List.eq_nil_of_length_eq_zero h0
  exact ⟨none,0,rfl,Nat.le_refl _,RowOf.nil⟩
 ·refine ⟨_,cap,rfl,hn,fun j x hj=>⟨⟨g,0,none⟩,_,rfl,hb g rfl,F.frame (he.2 j x hj) (fun _ _=>rfl) fun _ h=>h.1,?_,fun i u hu=>?_⟩⟩
  ·have hjl:=(List.getElem?_eq_some_iff.1 hj).1
   have h1:j*size+size≤cs.length:=by rw[he.1,←Nat.succ_mul];exact Nat.mul_le_mul_right _ hjl
   rw[List.length_take,List.length_drop];omega
  ·rw[List.getElem?_take] at hu
   split at hu
   ·rw[List.getElem?_drop] at hu
    have:=hc.cells (g:=g) rfl (j*size+i) u hu
    have ea:((⟨g,0,none⟩:Addr).add (j*size)).add i=(⟨g,0,none⟩:Addr).add (j*size+i):=by
     unfold Addr.add
     by_cases h1:j*size=0<;>by_cases h2:i=0<;>simp [h1,h2]
    rwa[ea]
   ·cases hu
theorem Build.app {P:Program}(F:Framed R){t ty:TypeId}{z:Value}{bytes:Nat}(ht:P.underlying t=some (.slice e))(hinfo:(P.info? e).map (fun i=>(i.zero,i.size,i.bytes))=some (some z,size,bytes))(hzs:z.cells.size=size)(hsz:0<size)(hb0:0<bytes)
  (h:Build R e size S T w v xs) {ys:List α} {ds:List Value} {ad:Addr} {c:Nat} (hy:Elems (R w fun b=>T b∧v.ownBlock≠some b) size ys ds) (hc:∀j u,ds[j]? =some u→w.cell? (ad.add j)=some u) (h1:∀u∈ds,u.oneCell'=true)
  (hS:S w.heap.size) (hn:(xs.length+ys.length)*bytes≤140737488355328):
  ∃v' w',(Builtin.append_ #[t,t] ty #[v,.slice (some ad) ys.length c]).run P w= .ok v' w'∧Build R e size S T w' v' (xs++ys)∧w.grownBy w' v.ownBlock∧(v'.ownBlock=v.ownBlock∨v'.ownBlock=some w.heap.size)∧(∃A c,v'= .slice A (xs.length+ys.length) c):=by
 obtain ⟨i0,hi,hzz⟩:=Option.map_eq_some_iff.1 hinfo
 simp only [Prod.mk.injEq] at hzz
 obtain ⟨hz0,hz1,hz2⟩:=hzz
 have hrl:=fun k hk=>h.row_lt (k:=k) hk
 obtain ⟨cs,ho,hb,he⟩:=h
 have hlen:xs.length+ys.length≤140737488355328:=Nat.le_trans (Nat.le_mul_of_pos_right _ hb0) hn
 obtain ⟨v',w',hr,hown,hg,hnil,hat⟩:=run_append_own_at (P:=P) w 0 t ty e i0 z size bytes ht hi hz0 hz1 hz2 hzs hsz v xs.length cs ho ad ys.length c ds hy.1 hc h1 (by simp only [maxLen];omega) hn (by simp)
 have hsame:Same (fun b=>(T b∧v.ownBlock≠some b)∧b<w.heap.size) w w':=fun b hbb=>hg.block b hbb.2 (Ne.symm hbb.1.2)
 have himp:∀b,(T b∧v.ownBlock≠some b)∧b<w.heap.size→T b∧v'.ownBlock≠some b:=fun b hbb=>⟨hbb.1.1,by
  rcases hat with hat|hat
  ·rw[hat];exact hbb.1.2
  ·rw[hat];intro hc;injection hc with hc;omega⟩
 refine ⟨v',w',hr,⟨cs++ds,by simpa using hown,fun k hk=>?_,?_⟩,hg,hat,?_⟩
 ·rcases hat with hat|hat
  ·exact hb k (by rw[←hat];exact hk)
  ·rw[hat] at hk;injection hk with hk;subst hk;exact hS
 ·exact Elems.app (he.imp fun x c hx=>F.frame (F.lt hx) hsame himp) (hy.imp fun x c hx=>F.frame (F.lt hx) hsame himp)
 ·rcases hown.2 with ⟨h0,h1⟩|⟨g,cap,cur,rfl,_⟩
  ·exact ⟨none,0,by rw[h0,h1]⟩
  ·exact ⟨_,cap,rfl⟩
theorem Build.push {P:Program}(F:Framed R){t ty:TypeId}{z:Value}{bytes:Nat}(ht:P.underlying t=some (.slice e))(hinfo:(P.info? e).map (fun i=>(i.zero,i.size,i.bytes))=some (some z,size,bytes))(hzs:z.cells.size=size)(hsz:0<size)(hb0:0<bytes)
  (h:Build R e size S T w v xs) {y:α} {ys:List Value} (hy:R w (fun b=>T b∧v.ownBlock≠some b) y ys) (hl:ys.length=size) (h1:∀u∈ys,u.oneCell'=true)
  (hS:S (w.heap.size+1)) (hn:(xs.length+1)*bytes≤140737488355328):
  ∃v' w',(Builtin.append_ #[t,t] ty #[v,.slice (some ⟨w.heap.size,0,none⟩) 1 1]).run P (w.alloc (.cells ys.toArray e))= .ok v' w'∧Build R e size S T w' v' (xs++ [y])∧w.grownBy w' v.ownBlock∧(v'.ownBlock=v.ownBlock∨v'.ownBlock=some (w.heap.size+1))∧(∃A c,v'= .slice A (xs.length+1) c):=by
 have hE:Ext w (w.alloc (.cells ys.toArray e)):=(Ext.refl w).alloc _
 obtain ⟨v',w',hr,hB,hg,hat,hv⟩:=Build.app (P:=P) (ty:=ty) (w:=w.alloc (.cells ys.toArray e)) (ad:=⟨w.heap.size,0,none⟩) (c:=1) F ht hinfo hzs hsz hb0 (h.ext F hE) (ys:=[y]) (Elems.one (F.ext hy hE) hl)
  (by simpa using World.news_of_block (cs:=ys.toArray) (t:=e) (fr:=(0,0)) (heap_alloc_new w (.cells ys.toArray e))) h1 (by rw[zz];exact hS) hn
 exact ⟨v',w',hr,hB,World.grownBy.trans (World.grownBy_alloc w (.cells ys.toArray e) v.ownBlock) hg,by rw[zz] at hat;exact hat,hv⟩
theorem RowOf.cells {R':α→List Value→Prop}{S':Nat→Prop}{ad:Addr}{ys:List α}(h:RowOf R' size S' w (some ad) ys):∃ds,Elems R' size ys ds∧∀j u,ds[j]? =some u→w.cell? (ad.add j)=some u:=by
 induction ys using List.reverseRecOn' with
 |nil=>exact ⟨[],Elems.nil _ _,fun j u hu=>by simp at hu⟩
 |snoc ys y ih=>
  obtain ⟨ds,he,hc⟩:=ih fun j x hj=>h j x (by rw[List.getElem?_append_left (List.getElem?_eq_some_iff.1 hj).1];exact hj)
  obtain ⟨ad',cs,ha,_,hr,hl,hcs⟩:=h ys.length y (by simp)
  cases ha
  refine ⟨ds++cs,Elems.app he (Elems.one hr hl),fun j u hu=>?_⟩
  rcases Nat.lt_or_ge j ds.length with hj|hj
  ·rw[List.getElem?_append_left hj] at hu;exact hc j u hu
  ·rw[List.getElem?_append_right hj] at hu
   have:=hcs _ u hu
   have ea:(ad.add (ys.length*size)).add (j - ds.length)=ad.add j:=by
    rw[he.1] at hj ⊢
    unfold Addr.add
    by_cases h1:ys.length*size=0<;>by_cases h2:j - ys.length*size=0
    ·have:j=0:=by omega
     simp [h1,this]
    ·simp [h1,show ¬j=0 by omega]
    ·have:j=ys.length*size:=by omega
     subst this;simp [h1]
    ·simp [h1,h2,show ¬j=0 by omega,Nat.add_assoc,show ys.length*size+(j - ys.length*size)=j by omega]
   rwa[ea] at this
theorem Build.appRow {P:Program}(F:Framed R){t ty:TypeId}{z:Value}{bytes:Nat}(ht:P.underlying t=some (.slice e))(hinfo:(P.info? e).map (fun i=>(i.zero,i.size,i.bytes))=some (some z,size,bytes))(hzs:z.cells.size=size)(hsz:0<size)(hb0:0<bytes)
  (h:Build R e size S T w v xs) {ys:List α} {A:Option Addr} {n c:Nat} {S':Nat→Prop} (hl:ys.length=n) (hy:RowOf (R w fun b=>T b∧v.ownBlock≠some b) size S' w A ys) (h1:∀y cs,R w (fun b=>T b∧v.ownBlock≠some b) y cs→∀u∈cs,u.oneCell'=true)
  (hS:S w.heap.size) (hn:(xs.length+n)*bytes≤140737488355328):
  ∃v' w',(Builtin.append_ #[t,t] ty #[v,.slice A n c]).run P w= .ok v' w'∧Build R e size S T w' v' (xs++ys)∧w.grownBy w' v.ownBlock∧(v'.ownBlock=v.ownBlock∨v'.ownBlock=some w.heap.size)∧(∃A c,v'= .slice A (xs.length+n) c):=by
 subst hl
 rcases A with _|ad
 ·have h0:ys= []:=by
   cases ys with
   |nil=>rfl
   |cons y ys=>
    obtain ⟨ad,cs,ha,_⟩:=hy 0 y rfl
    cases ha
  subst h0
  obtain ⟨A',c',hv⟩:=h.slice
  obtain ⟨i0,hi,hzz⟩:=Option.map_eq_some_iff.1 hinfo
  refine ⟨v,w,?_,by simpa using h,World.grownBy.refl w _,.inl rfl,⟨A',c',by simpa using hv⟩⟩
  obtain ⟨cs,ho,_⟩:=h
  rcases ho.2 with ⟨rfl,hn⟩|⟨g,cap,cur,rfl,_,_,hnc,_⟩
  ·simp [Builtin.append_,run_underlying ht,sizeOf,typeInfo,hi,Builtin.lenOf,Builtin.firstCells]
  ·simp [Builtin.append_,run_underlying ht,sizeOf,typeInfo,hi,Builtin.lenOf,Builtin.firstCells,hnc,storeCells]
 ·obtain ⟨ds,he,hc⟩:=hy.cells
  refine Build.app F ht hinfo hzs hsz hb0 h he hc (fun u hu=>?_) hS hn
  obtain ⟨i,hi,rfl⟩:=List.getElem_of_mem hu
  have hi':i<ys.length*size:=by rw[←he.1];exact hi
  have hq:i / size<ys.length:=(Nat.div_lt_iff_lt_mul hsz).2 hi'
  refine h1 _ _ (he.2 (i / size) ys[i / size] (List.getElem?_eq_getElem hq)) _ (List.mem_of_getElem? (i:=i % size) ?_)
  rw[List.getElem?_take,if_pos (Nat.mod_lt _ hsz),List.getElem?_drop]
  have:i / size*size+i % size=i:=by rw[Nat.mul_comm];exact Nat.div_add_mod i size
  rw[this];exact List.getElem?_eq_getElem hi
theorem Build.make {P:Program}{t:TypeId}{z:Value}{bytes:Nat}(ht:P.underlying t=some (.slice e))(hinfo:(P.info? e).map (fun i=>(i.zero,i.size,i.bytes))=some (some z,size,bytes))(hb0:0<bytes)(w:World)(c:Nat)(hbytes:bytes*c≤281474976710656)(hS:S w.heap.size):
  ∃cur,(Instr.makeSlice t (.int .i64 0) (.int .i64 (c:Int))).run P w= .ok (.slice (some ⟨w.heap.size,0,none⟩) 0 c) (w.alloc (.cells cur e))∧Build R e size S T (w.alloc (.cells cur e)) (.slice (some ⟨w.heap.size,0,none⟩) 0 c) []:=by
 obtain ⟨i0,hi,hzz⟩:=Option.map_eq_some_iff.1 hinfo
 simp only [Prod.mk.injEq] at hzz
 obtain ⟨hz0,hz1,hz2⟩:=hzz
 subst hz2;subst hz1
 have h63:c≤281474976710656:=Nat.le_trans (Nat.le_mul_of_pos_left _ hb0) hbytes
 have hb':(i0.bytes:Int)*(c:Int)≤281474976710656:=by
  have h:((i0.bytes*c:Nat):Int)≤281474976710656:=by omega
  rwa[Int.natCast_mul] at h
 have hr:=run_make (P:=P) w t e i0 z ht hi hz0 .i64 .i64 0 c (Int.le_refl _) (by omega) hb' (by omega)
 simp only [Int.toNat_zero,Int.toNat_natCast] at hr
 refine ⟨_,hr,[],World.ownsRow_made w _ c (Nat.zero_le _) (by simp only [maxLen];omega) (size_madeCells _ _),fun k hk=>?_,Elems.nil _ _⟩
 simp [Value.ownBlock] at hk;subst hk;exact hS
end
theorem zR {P:Program}{ops:Array Oper}{rest:List Oper}{o:Oper}{a:Act}{Q:Exit→Act→World→Prop}{w w':World}{s x:Operand}{t:TypeId}{v xv v':Value}
  (hrun:(Builtin.append_ #[t,t] o.type #[v,xv]).run P w= .ok v' w') (hgd:o.guard=none) (ho:o.op= .call { callee:=.builtin .append,args:= #[s,x],argTypes:= #[t,t] })
  (hs:a.eval s=v) (hx:a.eval x=xv) (h:wpList P ops Q rest (a.put o.dst v') w'):wpList P ops Q (o::rest) a w:=by
 refine wpList_plain hgd fun K hK=>?_
 unfold Oper.wp execOp
 simp only [ho,resolve,invoke,builtin,Sem.run_bind,Sem.run_pure,Result.andThen_ok,List.map_toArray,List.map_cons,List.map_nil,hs,hx,hrun]
 exact hK _ _ h
theorem zh {w:World}{b:Nat}{cs:Array Value}{T:TypeId}{fr:Nat×Nat}(h:w.heap[b]? =some (.cells cs T fr)){i:Nat}{v:Value}(hi:cs[i]? =some v):w.cell? ⟨b,i,none⟩=some v:=by
 simp [World.cell?,h,hi]
theorem ZT (w:World)(b i:Nat)(v:Value):Same (· ≠b) w (w.setCell ⟨b,i,none⟩ v):=fun k hk=>Below.heap_setCell w ⟨b,i,none⟩ v k hk
theorem Same.trans {S:Nat→Prop}{a b c:World}(h:Same S a b)(k:Same S b c):Same S a c:=fun i hi=>(k i hi).trans (h i hi)
def six (w:World)(b:Nat)(v0 v1 v2 v3 v4 v5:Value):World:=(((((w.setCell ⟨b,0,none⟩ v0).setCell ⟨b,1,none⟩ v1).setCell ⟨b,2,none⟩ v2).setCell ⟨b,3,none⟩ v3).setCell ⟨b,4,none⟩ v4).setCell ⟨b,5,none⟩ v5
theorem zbY (w:World)(b:Nat)(v0 v1 v2 v3 v4 v5:Value):Same (· ≠b) w (six w b v0 v1 v2 v3 v4 v5):=
 (((((ZT w b 0 v0).trans (ZT _ b 1 v1)).trans (ZT _ b 2 v2)).trans (ZT _ b 3 v3)).trans (ZT _ b 4 v4)).trans (ZT _ b 5 v5)
theorem zdd {a w:World}(h:Ext a w){b:Nat}(hb:a.heap.size≤b)(v0 v1 v2 v3 v4 v5:Value):Ext a (six w b v0 v1 v2 v3 v4 v5):=
 (((((h.setCell hb v0).setCell hb v1).setCell hb v2).setCell hb v3).setCell hb v4).setCell hb v5
theorem zaz {w:World}{b i:Nat}{c:Array Value}{T:TypeId}{fr:Nat×Nat}(v:Value)(h:w.heap[b]? =some (.cells c T fr)):(w.setCell ⟨b,i,none⟩ v).heap[b]? =some (.cells (c.setIfInBounds i v) T fr):=by
 simp [World.setCell,Array.getElem?_modify,h]
theorem zgd {w:World}{b:Nat}{c0 c1 c2 c3 c4 c5:Value}{T:TypeId}{fr:Nat×Nat}(h:w.heap[b]? =some (.cells #[c0,c1,c2,c3,c4,c5] T fr))(v0 v1 v2 v3 v4 v5:Value):(six w b v0 v1 v2 v3 v4 v5).heap[b]? =some (.cells #[v0,v1,v2,v3,v4,v5] T fr):=
 zaz v5 (zaz v4 (zaz v3 (zaz v2 (zaz v1 (zaz v0 h)))))
theorem zpZ (w:World)(b:Nat)(v0 v1 v2 v3 v4 v5:Value):(six w b v0 v1 v2 v3 v4 v5).heap.size=w.heap.size:=by simp [six,World.setCell]
theorem RepT.ofRow {w:World}{S:Nat→Prop}{A:Option Addr}{c:Nat}{l:List Tree}(h:RowOf (RT w S) 1 S w A l)(hlen:l.length*16≤140737488351232)(hc:l.length≤c)(hA:l= []→A.isSome=true):RepT w S (.list l) (.iface 259 (.slice A l.length c)):=by
 have key:∀j:Nat,∃y,∀x,l[j]? =some x→RepT w S x y∧∃ad,A=some ad∧S ad.block∧w.cell? (ad.add j)=some y:=fun j=>by
  cases hj:l[j]? with
  |none=>exact ⟨.nilIface,fun x hx=>by cases hx⟩
  |some x=>
   obtain ⟨ad,cs,ha,hs,⟨y,rfl,hy⟩,_,hcc⟩:=h j x hj
   exact ⟨y,fun z hz=>by cases hz;exact ⟨hy,ad,ha,hs,by simpa [Addr.add] using hcc 0 y rfl⟩⟩
 have hn:A.isSome=true:=by
  cases l with
  |nil=>exact hA rfl
  |cons x l=>obtain ⟨ad,cs,rfl,_⟩:=h 0 x rfl;rfl
 exact .list (fun j=>Classical.choose (key j)) hlen hc hn (fun j x hj=>(Classical.choose_spec (key j) x hj).1) (fun j x hj=>(Classical.choose_spec (key j) x hj).2)
theorem RepT.one {w:World}{S:Nat→Prop}{t:Tree}{x:Value}(h:RepT w S t x):∀u∈ [x],u.oneCell'=true:=by
 rcases h.form with rfl|⟨T,y,rfl⟩<;>simp [Value.oneCell']
theorem zlw:(prog.info? 20).map (fun i=>(i.zero,i.size,i.bytes))=some (some .nilIface,1,16):=by kernel_rfl
theorem zhv:(prog.info? 9).map (fun i=>(i.zero,i.size,i.bytes))=some (some (.string ⟨#[]⟩),1,16):=by kernel_rfl
theorem zfC:(prog.info? 27).map (fun i=>(i.zero,i.size,i.bytes))=some (some (.agg #[.int .i64 0,.int .i64 0,.float .f64 0,.string ⟨#[]⟩,.slice none 0 0,.slice none 0 0]),6,88):=by kernel_rfl
end Go.Smd
end
