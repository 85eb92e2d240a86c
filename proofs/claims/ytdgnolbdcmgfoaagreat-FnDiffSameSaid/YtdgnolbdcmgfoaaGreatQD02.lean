/- Part 2. -/
import Derived.Test.YtdgnolbdcmgfoaaGreatQD01
import Derived.Maps.RangeWalk
import Derived.Maps.Keyed
set_option linter.unusedVariables false
set_option linter.unusedSimpArgs false
set_option maxRecDepth 100000
set_option maxHeartbeats 8000000
section
namespace Go.Smd
open Go.RowKit
inductive D where
 |v (x:Value)
 |sl (E:TypeId) (xs:List (List D))
 |pt (xs:List D)
 |ifc (T:TypeId) (x:D)
 |ifa (T:TypeId) (xs:List D)
 |tr (t:Tree)
 |vv (t:Tree)
 |mp (m:List (ByteArray×Tree))
def Z7:IntKind→Int→Bool
 | .i8,n=>decide (-128≤n) && decide (n≤127)
 | .i16,n=>decide (-32768≤n) && decide (n≤32767)
 | .i32,n=>decide (-2147483648≤n) && decide (n≤2147483647)
 | .i64,n=>decide (-9223372036854775808≤n) && decide (n≤9223372036854775807)
 | .u8,n=>decide (0≤n) && decide (n≤255)
 | .u16,n=>decide (0≤n) && decide (n≤65535)
 | .u32,n=>decide (0≤n) && decide (n≤4294967295)
 | .u64,n=>decide (0≤n) && decide (n≤18446744073709551615)
theorem zhw (k:IntKind)(n:Int):Z7 k (k.wrap n)=true:=by
 cases k<;>simp [Z7,IntKind.wrap,IntKind.bits,IntKind.signed]<;>(try split)<;>omega
theorem zq {n:Int}(h1: -9223372036854775808≤n)(h2:n≤9223372036854775807):IntKind.wrap .i64 n=n:=by
 simp [IntKind.wrap,IntKind.bits,IntKind.signed];split<;>omega
def z7:Value→Bool
 | .int k n=>Z7 k n
 | .string s=>decide (s.size≤140737488351232)
 | .float .f64 f=>decide (f<18446744073709551616)
 | .float .f32 f=>decide (f<4294967296)
 | .bool _| .pointer _| .nilFunc| .nilIface| .map none| .slice none 0 0| .slice (some _) _ _=>true
 | .func (.func _) a b=>a.isEmpty && b.isEmpty
 |_=>false
inductive RepD (P:Program) (w:World) (S:Nat→Prop):D→Value→Prop
 |v {x:Value} (h:z7 x=true):RepD P w S (.v x) x
 |sl {E:TypeId} {xs:List (List D)} {A:Option Addr} {c:Nat} (U:Nat→Nat→Value) (hb:xs.length*P.bytesOf E≤140737488351232) (hc:xs.length≤c)
   (hk:∀(j:Nat) (x:List D),xs[j]? =some x→x.length=P.cellsOf E)
   (hr:∀(j:Nat) (x:List D) (i:Nat) (d:D),xs[j]? =some x→x[i]? =some d→RepD P w S d (U j i))
   (hm:∀(j:Nat) (x:List D) (i:Nat) (d:D),xs[j]? =some x→x[i]? =some d→∃ad,A=some ad∧S ad.block∧w.cell? ((ad.add (j*P.cellsOf E)).add i)=some (U j i)):
   RepD P w S (.sl E xs) (.slice A xs.length c)
 |pt {xs:List D} {a:Addr} (U:Nat→Value) (hr:∀(i:Nat) (d:D),xs[i]? =some d→RepD P w S d (U i))
   (hm:∀(i:Nat) (d:D),xs[i]? =some d→S a.block∧w.cell? (a.add i)=some (U i)):RepD P w S (.pt xs) (.pointer (some a))
 |ifc {T:TypeId} {x:D} {u:Value} (h:RepD P w S x u):RepD P w S (.ifc T x) (.iface T u)
 |ifa {T:TypeId} {xs:List D} {us:List Value} (hl:us.length=xs.length) (h:∀(i:Nat) (d:D) (u:Value),xs[i]? =some d→us[i]? =some u→RepD P w S d u):RepD P w S (.ifa T xs) (.iface T (.agg us.toArray))
 |tr {t:Tree} {x:Value} (h:RepT w S t x):RepD P w S (.tr t) x
 |vv {t:Tree} {x:Value} (h:RepV w S t x):RepD P w S (.vv t) x
 |mp {m:List (ByteArray×Tree)} {x:Value} (h:RepT w S (.map m) (.iface 276 x)):RepD P w S (.mp m) x
section
variable {P:Program}
theorem RepD.frame {w w':World}{S:Nat→Prop}{d:D}{x:Value}(h:RepD P w S d x):∀{S':Nat→Prop},Same S w w'→(∀b,S b→S' b)→RepD P w' S' d x:=by
 induction h with
 |v h=>exact fun _ _=>.v h
 |sl U hb hc hk hr hm ih=>
  intro S' e hS
  exact .sl U hb hc hk (fun j x i d hj hi=>ih j x i d hj hi e hS) fun j x i d hj hi=>by
   obtain ⟨ad,ha,hs,hcs⟩:=hm j x i d hj hi
   exact ⟨ad,ha,hS _ hs,e.cell (by rw[zB,zB];exact hs) hcs⟩
 |pt U hr hm ih=>
  intro S' e hS
  exact .pt U (fun i d hi=>ih i d hi e hS) fun i d hi=>⟨hS _ (hm i d hi).1,e.cell (by rw[zB];exact (hm i d hi).1) (hm i d hi).2⟩
 |ifc h ih=>exact fun e hS=>.ifc (ih e hS)
 |ifa hl h ih=>exact fun e hS=>.ifa hl fun i d u hi hu=>ih i d u hi hu e hS
 |tr h=>exact fun e hS=>.tr (h.frame e hS)
 |vv h=>exact fun e hS=>.vv (h.frame e hS)
 |mp h=>exact fun e hS=>.mp (h.frame e hS)
theorem RepD.mono {w:World}{S S':Nat→Prop}{d:D}{x:Value}(h:RepD P w S d x)(hS:∀b,S b→S' b):RepD P w S' d x:=h.frame (fun _ _=>rfl) hS
theorem RepV.lt {w:World}{S:Nat→Prop}{t:Tree}{v:Value}(h:RepV w S t v):RepV w (fun b=>S b∧b<w.heap.size) t v:=by
 obtain ⟨a,x,rfl,hs,hc,hx⟩:=h
 exact ⟨a,x,rfl,⟨hs,zdO hc⟩,hc,hx.lt⟩
theorem RepD.lt {w:World}{S:Nat→Prop}{d:D}{x:Value}(h:RepD P w S d x):RepD P w (fun b=>S b∧b<w.heap.size) d x:=by
 induction h with
 |v h=>exact .v h
 |sl U hb hc hk hr hm ih=>
  exact .sl U hb hc hk ih fun j x i d hj hi=>by
   obtain ⟨ad,ha,hs,hcs⟩:=hm j x i d hj hi
   have:=zdO hcs
   rw[zB,zB] at this
   exact ⟨ad,ha,⟨hs,this⟩,hcs⟩
 |pt U hr hm ih=>
  exact .pt U ih fun i d hi=>by
   have:=zdO (hm i d hi).2
   rw[zB] at this
   exact ⟨⟨(hm i d hi).1,this⟩,(hm i d hi).2⟩
 |ifc h ih=>exact .ifc ih
 |ifa hl h ih=>exact .ifa hl ih
 |tr h=>exact .tr h.lt
 |vv h=>exact .vv h.lt
 |mp h=>exact .mp h.lt
theorem RepD.ext {w w':World}{S:Nat→Prop}{d:D}{x:Value}(h:RepD P w S d x)(e:Ext w w'):RepD P w' S d x:=
 (h.lt.frame (fun b hb=>e.block b hb.2) fun _ h=>h).mono fun _ h=>h.1
theorem zp0 {x:Value}(h:z7 x=true):x.oneCell'=true:=by cases x<;>first|rfl|simp [z7] at h
theorem RepD.one {w:World}{S:Nat→Prop}{d:D}{x:Value}(h:RepD P w S d x):x.oneCell'=true:=by
 cases h with
 |v h=>exact zp0 h
 |tr h=>exact h.one _ (by simp)
 |vv h=>obtain ⟨a,x,rfl,_⟩:=h;rfl
 |mp h=>cases h;rfl
 |_=>rfl
def RepRow (P:Program)(w:World)(S:Nat→Prop)(xs:List D)(a:Addr):Prop:=∀(i:Nat) (d:D),xs[i]? =some d→∃u,S a.block∧w.cell? (a.add i)=some u∧RepD P w S d u
theorem RepD.pt_iff {w:World}{S:Nat→Prop}{xs:List D}{x:Value}:RepD P w S (.pt xs) x↔∃a,x= .pointer (some a)∧RepRow P w S xs a:=by
 constructor
 ·intro h
  cases h with
  |pt U hr hm=>exact ⟨_,rfl,fun i d hi=>⟨_,(hm i d hi).1,(hm i d hi).2,hr i d hi⟩⟩
 ·rintro ⟨a,rfl,h⟩
  have key:∀i:Nat,∃u,∀d:D,xs[i]? =some d→S a.block∧w.cell? (a.add i)=some u∧RepD P w S d u:=fun i=>by
   cases hi:xs[i]? with
   |none=>exact ⟨.bool false,fun d hd=>by cases hd⟩
   |some d=>obtain ⟨u,hu⟩:=h i d hi;exact ⟨u,fun d' hd'=>by cases hd';exact hu⟩
  exact .pt (fun i=>Classical.choose (key i)) (fun i d hi=>(Classical.choose_spec (key i) d hi).2.2) fun i d hi=>⟨(Classical.choose_spec (key i) d hi).1,(Classical.choose_spec (key i) d hi).2.1⟩
theorem RepRow.drop {w:World}{S:Nat→Prop}{xs:List D}{a:Addr}(h:RepRow P w S xs a)(n:Nat):RepRow P w S (xs.drop n) (a.add n):=fun i d hi=>by
 rw[List.getElem?_drop] at hi
 obtain ⟨u,hs,hc,hr⟩:=h _ d hi
 exact ⟨u,by rw[zB];exact hs,by rw[zeR];exact hc,hr⟩
theorem RepD.sl_iff {w:World}{S:Nat→Prop}{E:TypeId}{xs:List (List D)}{x:Value}:RepD P w S (.sl E xs) x↔∃A c,x= .slice A xs.length c∧xs.length≤c∧xs.length*P.bytesOf E≤140737488351232∧
  ∀(j:Nat) (r:List D),xs[j]? =some r→r.length=P.cellsOf E∧(0<P.cellsOf E→∃ad,A=some ad∧RepRow P w S r (ad.add (j*P.cellsOf E))):=by
 constructor
 ·intro h
  cases h with
  |sl U hb hc hk hr hm=>
   refine ⟨_,_,rfl,hc,hb,fun j r hj=>⟨hk j r hj,fun hp=>?_⟩⟩
   have hl:=hk j r hj
   obtain ⟨ad,ha,_,_⟩:=hm j r 0 _ hj (List.getElem?_eq_getElem (by omega))
   refine ⟨ad,ha,fun i d hi=>?_⟩
   obtain ⟨ad',ha',hs,hc⟩:=hm j r i d hj hi
   rw[ha] at ha';cases ha'
   exact ⟨_,by rw[zB];exact hs,hc,hr j r i d hj hi⟩
 ·rintro ⟨A,c,rfl,hc,hb,h⟩
  have key:∀j i:Nat,∃u,∀(r:List D) (d:D),xs[j]? =some r→r[i]? =some d→∃ad,A=some ad∧S ad.block∧w.cell? ((ad.add (j*P.cellsOf E)).add i)=some u∧RepD P w S d u:=fun j i=>by
   cases hj:xs[j]? with
   |none=>exact ⟨.bool false,fun r d hd=>by cases hd⟩
   |some r=>
    cases hi:r[i]? with
    |none=>exact ⟨.bool false,fun r' d hd hd'=>by cases hd;rw[hi] at hd';cases hd'⟩
    |some d=>
     have hl:=(h j r hj).1
     obtain ⟨ad,ha,hrow⟩:=(h j r hj).2 (by have:=(List.getElem?_eq_some_iff.1 hi).1;omega)
     obtain ⟨u,hs,hc,hr⟩:=hrow i d hi
     rw[zB] at hs
     exact ⟨u,fun r' d' hd hd'=>by cases hd;rw[hi] at hd';cases hd';exact ⟨ad,ha,hs,hc,hr⟩⟩
  refine .sl (fun j i=>Classical.choose (key j i)) hb hc (fun j r hj=>(h j r hj).1) (fun j r i d hj hi=>?_) fun j r i d hj hi=>?_
  ·obtain ⟨_,_,_,_,hr⟩:=Classical.choose_spec (key j i) r d hj hi;exact hr
  ·obtain ⟨ad,ha,hs,hc,_⟩:=Classical.choose_spec (key j i) r d hj hi;exact ⟨ad,ha,hs,hc⟩
theorem RepD.nil {w:World}{S:Nat→Prop}(E:TypeId):RepD P w S (.sl E []) (.slice none 0 0):=RepD.sl_iff.2 ⟨none,0,rfl,Nat.le_refl _,by simp,fun j r h=>by simp at h⟩
def trD:Tree→D
 | .nil=>.v .nilIface
 | .bool b=>.ifc 4 (.v (.bool b))
 | .int n=>.ifc 2 (.v (.int .i64 n))
 | .float f=>.ifc 25 (.v (.float .f64 f))
 | .str s=>.ifc 9 (.v (.string s))
 | .list l=>.ifc 259 (.sl 20 (l.map fun t=>[.tr t]))
 | .map m=>.ifc 276 (.mp m)
theorem zsI {w:World}{S:Nat→Prop}{t:Tree}{v:Value}(h1:P.cellsOf 20=1)(h2:P.bytesOf 20=16):RepD P w S (.tr t) v→RepD P w S (trD t) v:=by
  intro h
  cases h with
  |tr h=>
   cases h with
   |nil=>exact .v rfl
   |bool b=>exact .ifc (.v rfl)
   |int h=>exact .ifc (.v (by simpa [z7,Z7] using h))
   |float h=>exact .ifc (.v (by simpa [z7] using h))
   |str h=>exact .ifc (.v (by simpa [z7] using h))
   | @list _ l A c U hlen hcap hn hl hc=>
    refine .ifc (RepD.sl_iff.2 ⟨A,c,by simp,by simpa using hcap,by simpa [h2] using hlen,fun j r hj=>?_⟩)
    rw[List.getElem?_map] at hj
    obtain ⟨x,hx,rfl⟩:=Option.map_eq_some_iff.1 hj
    obtain ⟨ad,ha,hs,hcs⟩:=hc j x hx
    refine ⟨by simp [h1],fun _=>⟨ad,ha,fun i d hi=>?_⟩⟩
    match i,hi with
    |0,hi=>
     simp at hi;subst hi
     exact ⟨U j,by rw[zB];exact hs,by simpa [h1,zeR] using hcs,.tr (hl j x hx)⟩
   |map hS hr hm hk hs hb hbc hv=>exact .ifc (.mp (.map hS hr hm hk hs hb hbc hv))
inductive All2 {α β:Type} (R:α→β→Prop):List α→List β→Prop
 |nil:All2 R [] []
 |cons {x y xs ys} (h:R x y) (t:All2 R xs ys):All2 R (x::xs) (y::ys)
theorem All2.length {α β:Type}{R:α→β→Prop}{xs:List α}{ys:List β}(h:All2 R xs ys):xs.length=ys.length:=by induction h<;>simp_all
theorem All2.imp {α β:Type}{R R':α→β→Prop}{xs:List α}{ys:List β}(h:All2 R xs ys)(hR:∀(x:α) (y:β),x∈xs→R x y→R' x y):All2 R' xs ys:=by
 induction h with
 |nil=>exact .nil
 |cons h t ih=>exact .cons (hR _ _ (List.mem_cons_self ..) h) (ih fun x y hx=>hR x y (List.mem_cons_of_mem _ hx))
theorem All2.at {α β:Type}{R:α→β→Prop}{xs:List α}{ys:List β}(h:All2 R xs ys):∀{i:Nat} {x:α},xs[i]? =some x→∃y,ys[i]? =some y∧R x y:=by
 induction h with
 |nil=>intro i x hx;simp at hx
 |cons h t ih=>
  intro i x hx
  cases i with
  |zero=>simp at hx;subst hx;exact ⟨_,rfl,h⟩
  |succ i=>simp at hx;simpa using ih hx
theorem All2.at' {α β:Type}{R:α→β→Prop}{xs:List α}{ys:List β}(h:All2 R xs ys):∀{i:Nat} {y:β},ys[i]? =some y→∃x,xs[i]? =some x∧R x y:=by
 induction h with
 |nil=>intro i x hx;simp at hx
 |cons h t ih=>
  intro i x hx
  cases i with
  |zero=>simp at hx;subst hx;exact ⟨_,rfl,h⟩
  |succ i=>simp at hx;simpa using ih hx
theorem All2.of {α β:Type}{R:α→β→Prop}:∀{xs:List α} {ys:List β},xs.length=ys.length→(∀(i:Nat) (x:α) (y:β),xs[i]? =some x→ys[i]? =some y→R x y)→All2 R xs ys
 | [],[],_,_=>.nil
 |x::xs,y::ys,hl,h=>.cons (h 0 x y rfl rfl) (All2.of (by simpa using hl) fun i a b ha hb=>h (i+1) a b (by simpa using ha) (by simpa using hb))
 | [],_::_,hl,_=>by simp at hl
 |_::_,[],hl,_=>by simp at hl
theorem All2.append {α β:Type}{R:α→β→Prop}{xs xs':List α}{ys ys':List β}(h:All2 R xs ys)(k:All2 R xs' ys'):All2 R (xs++xs') (ys++ys'):=by
 induction h with
 |nil=>exact k
 |cons h t ih=>exact .cons h ih
theorem All2.drop {α β:Type}{R:α→β→Prop}{xs:List α}{ys:List β}(h:All2 R xs ys)(n:Nat):All2 R (xs.drop n) (ys.drop n):=by
 induction h generalizing n with
 |nil=>simp;exact .nil
 |cons h t ih=>cases n with
  |zero=>exact .cons h t
  |succ n=>simpa using ih n
theorem All2.take {α β:Type}{R:α→β→Prop}{xs:List α}{ys:List β}(h:All2 R xs ys)(n:Nat):All2 R (xs.take n) (ys.take n):=by
 induction h generalizing n with
 |nil=>simp;exact .nil
 |cons h t ih=>cases n with
  |zero=>exact .nil
  |succ n=>exact .cons h (ih n)
theorem All2.set {α β:Type}{R:α→β→Prop}{xs:List α}{ys:List β}(h:All2 R xs ys){n:Nat}{x:α}{y:β}(hxy:R x y):All2 R (xs.set n x) (ys.set n y):=by
 induction h generalizing n with
 |nil=>simp;exact .nil
 |cons h t ih=>cases n with
  |zero=>exact .cons hxy t
  |succ n=>exact .cons h ih
theorem All2.inv {α β:Type}{R:α→β→Prop}{x:α}{xs:List α}{ys:List β}(h:All2 R (x::xs) ys):∃y ys',ys=y::ys'∧R x y∧All2 R xs ys':=by
 cases h with|cons h t=>exact ⟨_,_,rfl,h,t⟩
theorem All2.inv0 {α β:Type}{R:α→β→Prop}{ys:List β}(h:All2 R ([]:List α) ys):ys= []:=by cases h;rfl
theorem All2.mem {α β:Type}{R:α→β→Prop}{xs:List α}{ys:List β}(h:All2 R xs ys):∀y∈ys,∃x∈xs,R x y:=by
 induction h with
 |nil=>simp
 |cons h t ih=>
  intro y hy
  rcases List.mem_cons.1 hy with rfl|hy
  ·exact ⟨_,List.mem_cons_self ..,h⟩
  ·obtain ⟨x,hx,hr⟩:=ih y hy;exact ⟨x,List.mem_cons_of_mem _ hx,hr⟩
end
end Go.Smd
end
section
namespace Go.Smd
open Go.RowKit Go.Proofs Go.Proofs.Tryz
def ZE:List ByteArray→List Tree→zaR→zaR
 |k::ks,t::ts,m=>ZE ks ts (ins k t m)
 |_,_,m=>m
mutual
def Zb:GV→Tree
 | .mk kind n f s keys l=>
  if kind=1 then .bool (n !=0) else if kind=2 then .int n else if kind=3 then .float f else if kind=4 then .str s
  else if kind=5 then .list (treesOf l) else if kind=6 then .map (ZE keys (treesOf l) []) else .nil
def treesOf:List GV→List Tree
 | []=>[]
 |x::l=>Zb x::treesOf l
end
theorem zaA:∀l,treesOf l=l.map Zb
 | []=>by simp [treesOf]
 |x::l=>by simp [treesOf,zaA l]
theorem zfD:∀(ks:List ByteArray) (ts:List Tree) (m:zaR),(ZE ks ts m).length≤m.length+ks.length
 | [],ts,m=>by simp [ZE]
 |k::ks,[],m=>by simp [ZE]
 |k::ks,t::ts,m=>by
  simp only [ZE]
  have h1:=zfD ks ts (ins k t m)
  have h2:=zcG k t m
  simp;omega
theorem zhx:∀(ks:List ByteArray) (ts:List Tree) (m:zaR) (i:Nat) (k:ByteArray) (t:Tree),ks[i]? =some k→ts[i]? =some t→
  ZE (ks.take (i+1)) ts m=ins k t (ZE (ks.take i) ts m)
 | [],_,_,i,_,_,h,_=>by simp at h
 |_::_,[],_,i,_,_,_,h=>by simp at h
 |q::ks,u::ts,m,0,k,t,hk,ht=>by
  simp at hk ht;subst hk;subst ht
  cases ks<;>simp [ZE]
 |q::ks,u::ts,m,i+1,k,t,hk,ht=>by
  simp only [List.take_succ_cons,ZE]
  exact zhx ks ts (ins q u m) i k t (by simpa using hk) (by simpa using ht)
theorem zhy:∀(ks:List ByteArray) (ts:List Tree) (m:zaR) (i:Nat),ts.length≤i→ZE (ks.take (i+1)) ts m=ZE (ks.take i) ts m
 | [],_,_,i,_=>by simp
 |q::ks,[],m,i,_=>by cases i<;>simp [ZE]
 |q::ks,t::ts,m,0,h=>by simp at h
 |q::ks,t::ts,m,i+1,h=>by
  simp only [List.take_succ_cons,ZE]
  exact zhy ks ts (ins q t m) i (by simpa using h)
def zp1 (v:GV):Prop:=∀(cs:List Value) (w:World) (S:Nat→Prop),RepGV S w v cs→
 Calls prog 129 #[.agg cs.toArray] w (Makes (fun W u=>RepT W (w.heap.size≤ ·) (Zb v) u) w)
theorem ziU (kind n:Int)(f:Nat)(s:ByteArray)(keys:List ByteArray)(l:List GV)(IH:∀x∈l,zp1 x)(cs:List Value)(w:World)(S:Nat→Prop)(hv:RepGV S w (.mk kind n f s keys l) cs):
  Calls prog 183 #[.agg cs.toArray] w (Makes (fun W u=>∃r,u= .map (some r)∧RepT W (w.heap.size≤ ·) (.map (ZE keys (treesOf l) [])) (.iface 276 u)) w):=by
 obtain ⟨ka,kc,la,lc,rfl,ok,hkc,hlc,hks,hls⟩:=hv.open
 have h1:=ok.okKeys
 have h2:=ok.okL
 obtain ⟨nk,hnk⟩:∃n,keys.length=n:=⟨_,rfl⟩
 obtain ⟨nl,hnl⟩:∃n,l.length=n:=⟨_,rfl⟩
 have Hk:=Lib.hid hnk;have Hl:=Lib.hid hnl
 have hkeach:=Lib.hid ok.okEach
 rw[hnk] at h1 hkc ⊢;rw[hnl] at h2 hlc ⊢
 clear hnk hnl ok
 have hmm:= @run_makeMap prog
 go_enter func183,ntmps183
 go_wp2
 go_loopw [10] (fun i wr=>∃k:Nat,k≤nk∧i= .int .i64 k∧Hid (Below w.heap.size w wr∧wr.heap[w.heap.size]? =some (.cells #[.int .i64 kind,.int .i64 n,.float .f64 f,.string s,.slice ka nk kc,.slice la nl lc] 27 (0,0)))∧RepT wr (w.heap.size+1≤ ·) (.map (ZE (keys.take k) (treesOf l) [])) (.iface 276 (.map (some (w.heap.size+1))))∧w.heap.size+2≤wr.heap.size) (fun i _=>nk - (intOf i).toNat)
 case atStart=>
  refine ⟨0,Nat.zero_le _,rfl,⟨?_,?_⟩,?_,?_⟩
  ·exact ((Ext.refl w).alloc _).alloc _
  ·exact zeq _ (zbP _ rfl)
  ·exact .map (es:=[]) (clock:=0) (Nat.le_refl _) (zbP _ (zz _ _)) (by simp [ZE]) (by simp [ZE]) (by simp [ZE]) (by simp) (by simp) (by simp [ZE])
  ·rw[zz,zz];omega
 case round=>
  obtain ⟨k,hk,rfl,hb,hm,hsz⟩:=hrel
  have c4:=zh hb.out.2 (i:=4) rfl
  have c5:=zh hb.out.2 (i:=5) rfl
  by_cases hlt:k<nk
  ·obtain ⟨q,hq⟩:∃q,keys[k]? =some q:=⟨keys[k]'(by rw[Hk.out];exact hlt),List.getElem?_eq_getElem _⟩
   have hE:Ext w wr:=hb.out.1
   obtain ⟨ad,rfl,cq⟩:=(hks.ext hE).at hq
   by_cases hlt2:k<nl
   ·obtain ⟨x,hx⟩:∃x,l[k]? =some x:=⟨l[k]'(by rw[Hl.out];exact hlt2),List.getElem?_eq_getElem _⟩
    obtain ⟨bd,d0,d1,d2,d3,d4,d5,rfl,_,hxr,hxc⟩:=(hls.ext hE).at hx
    have Hq:=Lib.hid hq;have Hx:=Lib.hid hx;clear hq hx
    obtain ⟨pa,hpa⟩:∃pa,bd.add (k*6)=pa:=⟨_,rfl⟩
    rw[hpa] at hxc
    obtain ⟨e0,e1,e2,e3,e4,e5⟩:=hxc.six
    go_wp2_with fail
    refine (IH x (List.mem_of_getElem? Hx.out) [d0,d1,d2,d3,d4,d5] wr S hxr).mono ?_
    rintro e w1 ⟨u,rfl,hu,hE1⟩
    have hsz1:=hE1.size
    obtain ⟨o,hrun,hm'⟩:=zuO (hm.ext hE1) (k:=q) (t:=Zb x) (x:=u) (hu.mono fun b hb=>⟨by omega,by omega⟩) (hkeach.out q (List.mem_of_getElem? Hq.out)) (by have:=zfD (keys.take k) (treesOf l) [];simp at this;omega)
    have Hb2:=Lib.hid (And.intro (zoJ (hb.out.1.trans (hE1.below hb.out.1.size)) (r:=w.heap.size+1) (by omega) o) ((zeQ w1 o (r:=w.heap.size+1) (b:=w.heap.size) (by omega)).trans (hE1.heap hb.out.2)))
    have Hm2:Hid (RepT (put w1 (w.heap.size+1) o) (w.heap.size+1≤ ·) (.map (ZE (keys.take (k+1)) (treesOf l) [])) (.iface 276 (.map (some (w.heap.size+1))))):=by
     rw[zhx keys (treesOf l) [] k q (Zb x) Hq.out (by rw[zaA,List.getElem?_map,Hx.out];rfl)];exact hm'
    have hsz2:=zht w1 (w.heap.size+1) o
    clear hm' hu hm hb e0 e1 e2 e3 e4 e5 hE1 hE
    go_wp2
    go_roundw
    case rel=>exact ⟨k+1,by omega,by go_num,Hb2,Hm2.out,by omega⟩
    case measure=>simp [intOf];omega
   ·have Hm2:Hid (RepT wr (w.heap.size+1≤ ·) (.map (ZE (keys.take (k+1)) (treesOf l) [])) (.iface 276 (.map (some (w.heap.size+1))))):=by
     rw[zhy keys (treesOf l) [] k (by rw[zaA,List.length_map,Hl.out];omega)];exact hm
    have Hq:=Lib.hid hq;clear hq hm
    go_wp2
    go_roundw
    case rel=>exact ⟨k+1,by omega,by go_num,hb,Hm2.out,by omega⟩
    case measure=>simp [intOf];omega
  ·have Hm2:Hid (RepT wr (w.heap.size≤ ·) (.map (ZE keys (treesOf l) [])) (.iface 276 (.map (some (w.heap.size+1))))):=by
    have:=hm.mono (S':=(w.heap.size≤ ·)) fun b hb=>by omega
    rwa[List.take_of_length_le (by rw[Hk.out];omega)] at this
   clear hm
   go_wp2
   go_ret
   exact ⟨_,rfl,⟨_,rfl,Hm2.out⟩,hb.out.1⟩
theorem zsJ:∀v,zp1 v:=by
 intro v
 induction v using GV.ind with
 |h kind n f s keys l IH=>
 intro cs w S hv
 by_cases k6:kind=6
 ·have hm:=ziU kind n f s keys l IH cs (w.alloc (.cells cs.toArray 27)) S (hv.ext ((Ext.refl _).alloc _))
  obtain ⟨ka,kc,la,lc,rfl,ok,hkc,hlc,hks,hls⟩:=hv.open
  subst k6
  have HT:Hid (Zb (.mk 6 n f s keys l)= .map (ZE keys (treesOf l) [])):=by simp [Zb,Hid]
  have HM:=Lib.hid hm;clear hm
  go_enter func129,ntmps129
  go_wp2_with fail
  refine HM.out.mono ?_
  rintro e w1 ⟨u,rfl,⟨r,rfl,hu⟩,hE⟩
  go_wp2
  go_ret
  refine ⟨_,rfl,?_,((Ext.refl _).alloc _).trans hE⟩
  rw[HT.out]
  exact hu.mono fun b hb=>by rw[zz] at hb;omega
 obtain ⟨ka,kc,la,lc,rfl,ok,hkc,hlc,hks,hls⟩:=hv.open
 have h2:=ok.okL
 by_cases k5:kind=5
 ·subst k5
  have HT:Hid (Zb (.mk 5 n f s keys l)= .list (treesOf l)):=by simp [Zb,Hid]
  obtain ⟨nl,hnl⟩:∃n,l.length=n:=⟨_,rfl⟩
  have Hl:=Lib.hid hnl
  rw[hnl] at h2 hlc ⊢
  clear hnl ok
  obtain ⟨cur,hmk,hB⟩:=Build.make (P:=prog) (R:=RT) (S:=(w.heap.size≤ ·)) (T:=(w.heap.size≤ ·)) underlying259 zlw (by omega) (w.alloc (.cells #[.int .i64 5,.int .i64 n,.float .f64 f,.string s,.slice ka keys.length kc,.slice la nl lc] 27)) nl (by omega) (by simp)
  have HB:=Lib.hid hB;clear hB
  go_enter func129,ntmps129
  go_wp2
  clear hmk
  go_loopw [3,38] (fun v i wr=>∃k:Nat,k≤nl∧i= .int .i64 k∧Hid (Ext w wr)∧Hid (Build RT 20 1 (w.heap.size≤ ·) (w.heap.size≤ ·) wr v (treesOf (l.take k)))∧Hid (k=0→∃ad c,v= .slice (some ad) 0 c)) (fun _ i _=>nl - (intOf i).toNat)
  case atStart=>exact ⟨0,Nat.zero_le _,rfl,((Ext.refl w).alloc _).alloc _,by rw[zz] at HB;exact HB,Lib.hid fun _=>⟨_,_,rfl⟩⟩
  case round=>
   obtain ⟨k,hk,rfl,hE,hB,hV⟩:=hrel
   by_cases hlt:k<nl
   ·obtain ⟨x,hx⟩:∃x,l[k]? =some x:=⟨l[k]'(by rw[Hl.out];exact hlt),List.getElem?_eq_getElem _⟩
    obtain ⟨bd,d0,d1,d2,d3,d4,d5,rfl,_,hxr,hxc⟩:=(hls.ext hE.out).at hx
    have Hx:=Lib.hid hx;clear hx
    obtain ⟨pa,hpa⟩:∃pa,bd.add (k*6)=pa:=⟨_,rfl⟩
    rw[hpa] at hxc
    obtain ⟨e0,e1,e2,e3,e4,e5⟩:=hxc.six
    obtain ⟨o0,o1,o2,o3,o4,o5⟩:=hxr.six
    go_wp2_with fail
    refine (IH x (List.mem_of_getElem? Hx.out) [d0,d1,d2,d3,d4,d5] _ S (hxr.ext ((Ext.refl _).alloc _))).mono ?_
    rintro e w1 ⟨u,rfl,hu,hE1⟩
    have hsz:=hE.out.size
    have hE2:Ext wr w1:=((Ext.refl wr).alloc _).trans hE1
    have hsz1:=hE1.size
    rw[zz] at hsz1
    have hB1:=hB.out.ext zhu hE2
    have hlk:=hB.out
    obtain ⟨v2,w2,hrun,hB2,hg,hat,A2,c2,hv2⟩:=Build.push (P:=prog) zhu (t:=259) (ty:=259) underlying259 zlw rfl (by omega) (by omega) hB1 (y:=Zb x) (ys:=[u]) ⟨u,rfl,hu.mono fun b hb=>by
     rw[zz] at hb
     exact ⟨by omega,fun hc=>by have:=hlk.row_lt hc;omega⟩⟩ rfl hu.one (by omega) (by rw[zaA,List.length_map,List.length_take];omega)
    have HB2:Hid (Build RT 20 1 (w.heap.size≤ ·) (w.heap.size≤ ·) w2 v2 (treesOf (l.take (k+1)))):=by
     have:treesOf (l.take (k+1))=treesOf (l.take k)++ [Zb x]:=by rw[List.take_add_one,Hx.out];simp [zaA]
     rw[this];exact hB2
    have HE2:Hid (Ext w w2):=Below.grown (Below.trans hE.out (hE2.below hsz)) hg (by omega) fun b hb=>by
     exact hlk.row_in hb
    rw[hv2] at hrun HB2
    have HR:=Lib.hid hrun
    have hcu:=zjm (hu.one u (by simp));unfold Value.cells at hcu
    clear hB2 hg hat hlk hB1 hB hE hu hE1 hE2 hv2 hrun
    go_wp2_with (at_builtin;go_must (refine zR HR.out rfl rfl rfl rfl ?_))
    go_roundw
    case rel=>exact ⟨k+1,by omega,by go_num,HE2,HB2,Lib.hid fun h=>by omega⟩
    case measure=>simp [intOf];omega
   ·obtain ⟨A,c,rfl,hcap,hrow⟩:=hB.out.done zhu (by omega)
    have HD:Hid (RepT wr (w.heap.size≤ ·) (.list (treesOf l)) (.iface 259 (.slice A (treesOf (l.take k)).length c))):=by
     have e:l.take k=l:=List.take_of_length_le (by rw[Hl.out];omega)
     rw[e] at hrow hcap ⊢
     exact RepT.ofRow hrow (by rw[zaA,List.length_map,Hl.out];omega) hcap fun hnil=>by
      have h0:k=0:=by
       have h1:=congrArg List.length hnil
       rw[zaA,List.length_map,Hl.out] at h1
       simp only [List.length_nil] at h1
       omega
      obtain ⟨ad,c',hv⟩:=hV.out h0
      injection hv with q1 _ _
      rw[q1];rfl
    clear hrow hB
    go_wp2
    go_ret
    exact ⟨_,rfl,by rw[HT.out];exact HD.out,hE.out⟩
 ·have HT:Hid (∀kind,kind≠5→kind≠6→Zb (.mk kind n f s keys l)=if kind=1 then .bool (n !=0) else if kind=2 then .int n else if kind=3 then .float f else if kind=4 then .str s else .nil):=by intro k h5 h6;simp [Zb,h5,h6]
  have hn:=ok.okN
  have hf:=ok.okF
  have hs:=ok.okS
  have HE:Hid (Ext w (w.alloc (.cells #[.int .i64 kind,.int .i64 n,.float .f64 f,.string s,.slice ka keys.length kc,.slice la l.length lc] 27))):=(Ext.refl w).alloc _
  by_cases k1:kind=1
  ·subst k1
   go_enter func129,ntmps129
   go_wp2
   go_ret
   refine ⟨_,rfl,?_,HE.out⟩
   rw[HT.out _ (by decide) (by decide),if_pos rfl];exact RepT.bool _
  by_cases k2:kind=2
  ·subst k2
   go_enter func129,ntmps129
   go_wp2
   go_ret
   refine ⟨_,rfl,?_,HE.out⟩
   rw[HT.out _ (by decide) (by decide),if_neg (by decide),if_pos rfl];exact RepT.int hn
  by_cases k3:kind=3
  ·subst k3
   go_enter func129,ntmps129
   go_wp2
   go_ret
   refine ⟨_,rfl,?_,HE.out⟩
   rw[HT.out _ (by decide) (by decide),if_neg (by decide),if_neg (by decide),if_pos rfl];exact RepT.float hf
  by_cases k4:kind=4
  ·subst k4
   go_enter func129,ntmps129
   go_wp2
   go_ret
   refine ⟨_,rfl,?_,HE.out⟩
   rw[HT.out _ (by decide) (by decide),if_neg (by decide),if_neg (by decide),if_neg (by decide),if_pos rfl];exact RepT.str hs
  ·have b1:(kind==1)=false:=by simp [k1]
   have b2:(kind==2)=false:=by simp [k2]
   have b3:(kind==3)=false:=by simp [k3]
   have b4:(kind==4)=false:=by simp [k4]
   have b5:(kind==5)=false:=by simp [k5]
   have b6:(kind==6)=false:=by simp [k6]
   go_enter func129,ntmps129
   go_wp2
   go_ret
   refine ⟨_,rfl,?_,HE.out⟩
   rw[HT.out _ k5 k6,if_neg k1,if_neg k2,if_neg k3,if_neg k4];exact RepT.nil
end Go.Smd
end
section
namespace Go.Smd
open Go.RowKit Go.Maps Go.WideElems
def zai (m:List (ByteArray×Tree))(k:ByteArray):Option Tree:=(m.find? fun p=>decide (p.1=k)).map (·.2)
def _root_.Go.Program.treeMap (P:Program)(T:TypeId):Bool:=match P.underlying T with
 |some (.map K E)=>(match P.underlying K with|some .string=>true|_=>false) && (match P.info? E with|some i=>(match i.zero with|some .nilIface=>true|_=>false)|none=>false)
 |_=>false
section
variable {P:Program}
theorem zlx {t k e:TypeId}(ht:P.underlying t=some (.map k e))(ty:TypeId){r:Nat}{es:Array MapEntry}{clock:Nat}{w:World}(h:w.heap[r]? =some (.map es clock)):(Builtin.len_ #[t] ty #[.map (some r)]).run P w= .ok (.int .i64 es.size) w:=by
 simp [Builtin.len_,run_underlying ht,goInt,MapKept.run_getObj_map h,Result.andThen,go_sem]
def zp2 (v:Value):Option (DataW Value×List MemPlace):=some (.held v,[])
theorem ziV {w:World}{S:Nat→Prop}{T:TypeId}{m:List (ByteArray×Tree)}{x:Value}(hT:P.treeMap T=true)(h:RepT w S (.map m) (.iface 276 x))(hnd:(m.map (·.1)).Nodup){k:ByteArray}(hk:k.size≤140737488351232)(ok:Bool):
  ∃y,RepT w S ((zai m k).getD .nil) y∧(Instr.lookup T x (.string k) ok).run P w= .ok (if ok then .tuple #[y,.bool (zai m k).isSome] else y) w:=by
 unfold Go.Program.treeMap at hT
 split at hT
 case h_2=>cases hT
 next K E hu=>
 simp only [Bool.and_eq_true] at hT
 obtain ⟨hK,hE⟩:=hT
 have hK:P.underlying K=some .string:=by
  revert hK
  cases P.underlying K with
  |none=>intro h;cases h
  |some d=>cases d<;>intro h<;>first|rfl|cases h
 have hz:(zeroValue E).run P w= .ok .nilIface w:=by
  revert hE
  cases hi:P.info? E with
  |none=>intro h;cases h
  |some i=>
   cases hzz:i.zero with
   |none=>intro h;simp only [hzz] at h;cases h
   |some z=>cases z<;>intro h<;>simp only [hzz] at h<;>first|(simp [zeroValue,typeInfo,hi,hzz];done)|cases h
 cases h with
 | @map _ _ r es clock hS hr hm hkey hs hb hbc hv=>
  have hl:es.length=m.length:=by simpa using congrArg List.length hkey
  have keyOfS:∀s:ByteArray,s.size≤140737488351232→keyOf P K (.string s)=some (Lit.string s.data.toList):=fun s h=>by
   have h2:s.size≤maxLen:=by unfold maxLen;omega
   simp [keyOf,hK,mapKey,h2]
  have hrd:∀x∈es,∃s,x.key= .string s∧rd P K zp2 x=some (Lit.string s.data.toList,.held x.val):=fun x hx=>by
   have:x.key∈m.map fun p=>Value.string p.1:=by rw[←hkey];exact List.mem_map_of_mem hx
   obtain ⟨p,hp,he⟩:=List.mem_map.1 this
   exact ⟨p.1,he.symm,by simp [rd,←he,keyOfS p.1 (hs p hp),zp2]⟩
  have hsz:es.toArray.size≤maxLen:=by (unfold maxLen;simp;omega)
  have hfit:Fit P K zp2 es.toArray clock:=by
   refine ⟨hsz,⟨by simpa using hbc,?_,?_⟩,fun x hx=>?_⟩
   ·exact hb.imp fun h=>Nat.ne_of_lt h
   ·simp only [hkey]
    exact List.pairwise_map.2 ((List.pairwise_map.1 hnd).imp fun h e=>h (by injection e))
   ·obtain ⟨s,_,h3⟩:=hrd x (by simpa using hx)
    exact ⟨_,h3⟩
  rcases Maps.fit_look ok (string_keyed hK) hu hz hr hfit (keyOfS k hk) with ⟨hrun,hno,_⟩|⟨e0,y,h0,h1,hrun,_⟩
  ·have hnone:zai m k=none:=by
    unfold zai
    rw[Option.map_eq_none_iff,List.find?_eq_none]
    intro p hp
    simp only [decide_eq_true_eq]
    rintro rfl
    obtain ⟨j,hj,rfl⟩:=List.getElem_of_mem hp
    have hje:j<es.length:=by omega
    refine hno es[j] (by simp) ?_
    have:=congrArg (fun q=>q[j]?) hkey
    simpa [List.getElem?_map,List.getElem?_eq_getElem hje,List.getElem?_eq_getElem hj] using this
   rw[hnone]
   exact ⟨.nilIface,.nil,by simpa using hrun⟩
  ·have h0':e0∈es:=by simpa using h0
   obtain ⟨j,hje,rfl⟩:=List.getElem_of_mem h0'
   have hj:j<m.length:=by omega
   have hkj:m[j].1=k:=by
    have:=congrArg (fun q=>q[j]?) hkey
    simp only [List.getElem?_map,List.getElem?_eq_getElem hje,List.getElem?_eq_getElem hj,Option.map_some] at this
    rw[h1] at this
    injection (Option.some.inj this) with h;exact h.symm
   have hsome:zai m k=some m[j].2:=by
    unfold zai
    have:m.find? (fun p=>decide (p.1=k))=some m[j]:=by
     rw[List.find?_eq_some_iff_getElem]
     refine ⟨by simpa using hkj,j,hj,rfl,fun i hi=>?_⟩
     have:=List.pairwise_iff_getElem.1 (List.pairwise_map.1 hnd) i j (by omega) hj hi
     simp only [Bool.not_eq_eq_eq_not,Bool.not_true,decide_eq_false_iff_not]
     rw[←hkj];exact this
    rw[this];rfl
   rw[hsome]
   refine ⟨es[j].val,(hv j m[j] es[j] (List.getElem?_eq_getElem hj) (List.getElem?_eq_getElem hje)).mono fun b hb=>hb.1,?_⟩
   simpa using hrun
def ItRep (S:Nat→Prop)(w:World)(m:List (ByteArray×Tree))(left:List ByteArray)(cur:Option ByteArray)(v:Value):Prop:=
 ∃b r es clock since seen c0,v= .pointer (some ⟨b,0,none⟩)∧(m.map (·.1)).Nodup∧RepT w S (.map m) (.iface 276 (.map (some r)))∧w.heap[r]? =some (.map es clock)∧w.heap[b]? =some (.mapIter (some r) since seen c0)∧
  (es.toList.map (·.born)).Nodup∧(∀x∈es.toList,x.born<since)∧since≤c0∧since≤clock∧((leftOf es seen).toList.map (·.key))=left.map Value.string∧∀k,cur=some k→∃e seen',seen=Array.push seen' e.born∧c0=clock∧e∈es.toList∧e.key= .string k
theorem ItRep.frame {S S':Nat→Prop}{w w':World}{m:List (ByteArray×Tree)}{left:List ByteArray}{cur:Option ByteArray}{v:Value}(h:ItRep S w m left cur v)(hS:∀b,S b→S' b)(e:Same S w w')(hb:∀b,v= .pointer (some ⟨b,0,none⟩)→w'.heap[b]? =w.heap[b]?):ItRep S' w' m left cur v:=by
 obtain ⟨b,r,es,clock,since,seen,c0,h1,hn,h2,h3,h4,rest⟩:=h
 have hSr:S r:=by cases h2 with|map hS=>exact hS
 exact ⟨b,r,es,clock,since,seen,c0,h1,hn,h2.frame e hS,(e r hSr).trans h3,(hb b h1).trans h4,rest⟩
theorem zjs {w:World}{S:Nat→Prop}{m:List (ByteArray×Tree)}{r:Nat}{es:Array MapEntry}{clock:Nat}(h:RepT w S (.map m) (.iface 276 (.map (some r))))(hr:w.heap[r]? =some (.map es clock))(hnd:(m.map (·.1)).Nodup){e:MapEntry}(he:e∈es.toList):
  ∃k,e.key= .string k∧k.size≤140737488351232∧RepT w S ((zai m k).getD .nil) e.val:=by
 cases h with
 | @map _ _ r es' clock' hS hr' hm hkey hs hb hbc hv=>
  rw[hr] at hr';cases hr'
  have he:e∈es':=by simpa using he
  have hl:es'.length=m.length:=by simpa using congrArg List.length hkey
  obtain ⟨j,hje,rfl⟩:=List.getElem_of_mem he
  have hj:j<m.length:=by omega
  have hkj:es'[j].key=Value.string m[j].1:=by
   have:=congrArg (fun q=>q[j]?) hkey
   simpa [List.getElem?_map,List.getElem?_eq_getElem hje,List.getElem?_eq_getElem hj] using this
  have hsome:zai m m[j].1=some m[j].2:=by
   unfold zai
   have:m.find? (fun p=>decide (p.1=m[j].1))=some m[j]:=by
    rw[List.find?_eq_some_iff_getElem]
    refine ⟨by simp,j,hj,rfl,fun i hi=>?_⟩
    have:=List.pairwise_iff_getElem.1 (List.pairwise_map.1 hnd) i j (by omega) hj hi
    simpa using this
   rw[this];rfl
  exact ⟨m[j].1,hkj,hs _ (List.getElem_mem hj),by rw[hsome];exact (hv j m[j] es'[j] (List.getElem?_eq_getElem hj) (List.getElem?_eq_getElem hje)).mono fun b hb=>hb.1⟩
theorem zjt {w:World}{S:Nat→Prop}{m:List (ByteArray×Tree)}{x:Value}(h:RepT w S (.map m) (.iface 276 x)):∃r es clock,x= .map (some r)∧w.heap[r]? =some (.map es clock)∧es.toList.map (·.key)=m.map (fun p=>Value.string p.1)∧(es.toList.map (·.born)).Nodup∧∀e∈es.toList,e.born<clock:=by
 cases h with
 | @map _ _ r es clock hS hr hm hkey hs hb hbc hv=>exact ⟨r,es.toArray,clock,rfl,hr,by simpa using hkey,(hb.imp fun h=>Nat.ne_of_lt h:List.Pairwise (· ≠ ·) (es.map (·.born))),by simpa using hbc⟩
theorem ItRep.start {S:Nat→Prop}{w:World}{T:TypeId}{m:List (ByteArray×Tree)}{x:Value}(hT:P.treeMap T=true)(h:RepT w S (.map m) (.iface 276 x))(hnd:(m.map (·.1)).Nodup):
  ∃o,(Instr.range T x).run P w= .ok (.pointer (some ⟨w.heap.size,0,none⟩)) (w.alloc o)∧ItRep S (w.alloc o) m (m.map (·.1)) none (.pointer (some ⟨w.heap.size,0,none⟩)):=by
 obtain ⟨r,es,clock,rfl,hr,hk,hb,hc⟩:=zjt h
 unfold Go.Program.treeMap at hT
 split at hT
 case h_2=>cases hT
 next K E hu=>
 have hrun:=run_range_map (P:=P) w T K E r es clock hu hr
 have hlt:r<w.heap.size:=(Array.getElem?_eq_some_iff.1 hr).1
 have e:Ext w (w.alloc (.mapIter (some r) clock #[] clock)):=(Ext.refl w).alloc _
 refine ⟨.mapIter (some r) clock #[] clock,hrun,w.heap.size,r,es,clock,clock, #[],clock,rfl,hnd,h.ext e,e.heap hr,heap_alloc_new w _,hb,hc,Nat.le_refl _,Nat.le_refl _,?_,fun k hk=>by cases hk⟩
 have:(leftOf es #[]).toList=es.toList:=by simp [leftOf]
 rw[this,hk];simp
theorem zfb {α β:Type}{f:α→β}:∀{l:List α},(l.map f).Nodup→∀{x y:α},x∈l→y∈l→f x=f y→x=y
 | [],_,_,_,hx,_,_=>by cases hx
 |z::l,hn,x,y,hx,hy,e=>by
  rw[List.map_cons,List.nodup_cons] at hn
  rcases List.mem_cons.1 hx with hx2|hx2<;>rcases List.mem_cons.1 hy with hy2|hy2
  ·rw[hx2,hy2]
  ·subst hx2;exact absurd (by rw[e];exact List.mem_map_of_mem hy2) hn.1
  ·subst hy2;exact absurd (by rw[←e];exact List.mem_map_of_mem hx2) hn.1
  ·exact zfb hn.2 hx2 hy2 e
theorem ItRep.next {S:Nat→Prop}{w:World}{m:List (ByteArray×Tree)}{left:List ByteArray}{cur:Option ByteArray}{v:Value}(h:ItRep S w m left cur v)(hS:∀b,S b→v≠ .pointer (some ⟨b,0,none⟩))(ty:TypeId):
  (left= []∧(Instr.next v false ty).run P w= .ok (.tuple #[.bool false]) w)∨
  ∃k y w' b,k∈left∧k.size≤140737488351232∧v= .pointer (some ⟨b,0,none⟩)∧RepT w S ((zai m k).getD .nil) y∧(Instr.next v false ty).run P w= .ok (.tuple #[.bool true,.string k,y]) w'∧w.grownBy w' (some b)∧w'.heap.size=w.heap.size∧ItRep S w' m (left.filter fun x=>decide (x≠k)) (some k) v:=by
 obtain ⟨b,r,es,clock,since,seen,c0,rfl,hnd,h2,h3,h4,h5,h6,h7,h7',h8,_⟩:=h
 rcases run_next_at (P:=P) w ty b r since c0 seen es clock h4 h3 h6 h7 with ⟨h0,hrun⟩|⟨e,he,w1,hw1,hrun⟩
 ·refine .inl ⟨?_,hrun⟩
  have:(leftOf es seen).toList= []:=by
   have:(leftOf es seen).toList.length=0:=by simpa using h0
   exact List.eq_nil_of_length_eq_zero this
  rw[this] at h8
  simpa using h8.symm
 ·refine .inr ?_
  have hes:e∈es.toList:=by simp [leftOf] at he ⊢;exact he.1
  obtain ⟨k,hk,hks,hval⟩:=zjs h2 h3 hnd hes
  have hkl:k∈left:=by
   have:Value.string k∈left.map Value.string:=by rw[←h8,←hk];exact List.mem_map_of_mem he
   obtain ⟨k',hk',e'⟩:=List.mem_map.1 this
   cases e';exact hk'
  have hr0:S r:=by cases h2 with|map hS=>exact hS
  have hrb:r≠b:=fun e=>hS r hr0 (by rw[e])
  have hblt:b<w.heap.size:=(Array.getElem?_eq_some_iff.1 h4).1
  have hw1h:w1.heap=w.heap:=by rcases hw1 with rfl|rfl<;>rfl
  have hset:∀i,(ChangeMaps.setBlock w1 b (.mapIter (some r) since (seen.push e.born) clock)).heap[i]? =if i=b then some (.mapIter (some r) since (seen.push e.born) clock) else w.heap[i]? :=fun i=>by
   simp only [ChangeMaps.setBlock,hw1h]
   by_cases e:i=b
   ·subst e;simp [hblt]
   ·simp [e,Ne.symm e,Array.getElem?_setIfInBounds]
  have hsz:(ChangeMaps.setBlock w1 b (.mapIter (some r) since (seen.push e.born) clock)).heap.size=w.heap.size:=by simp [ChangeMaps.setBlock,hw1h]
  have hgr:w.grownBy (ChangeMaps.setBlock w1 b (.mapIter (some r) since (seen.push e.born) clock)) (some b):=
   ⟨by rcases hw1 with rfl|rfl<;>rfl,by rcases hw1 with rfl|rfl<;>rfl,by rcases hw1 with rfl|rfl<;>rfl,by rw[hsz];exact Nat.le_refl _,fun i _ hi=>by rw[hset];rw[if_neg (fun e=>hi (by rw[e]))]⟩
  have hSame:Same S w (ChangeMaps.setBlock w1 b (.mapIter (some r) since (seen.push e.born) clock)):=fun i hi=>by
   rw[hset,if_neg];rintro rfl;exact hS i hi rfl
  have hkeys:=(zjt h2)
  obtain ⟨r',es',clock',e1,e2,hk2,_,_⟩:=hkeys
  cases e1
  rw[h3] at e2;cases e2
  have hpw:(es.toList.map (·.key)).Nodup:=by
   rw[hk2]
   exact List.pairwise_map.2 ((List.pairwise_map.1 hnd).imp fun h e=>h (by injection e))
  have hinj:∀x∈es.toList,(x.born=e.born↔x.key= .string k):=fun x hx=>by
   rw[←hk]
   constructor
   ·intro h;exact congrArg MapEntry.key (zfb h5 hx hes h)
   ·intro h;exact congrArg MapEntry.born (zfb hpw hx hes h)
  refine ⟨k,e.val,_,b,hkl,hks,rfl,hval,by rw[hrun,hk],hgr,hsz,b,r,es,clock,since,seen.push e.born,clock,rfl,hnd,h2.frame hSame (fun _ h=>h),by rw[hset,if_neg hrb];exact h3,by rw[hset,if_pos rfl],h5,h6,h7',h7',?_,fun k' hk'=>⟨e,seen,rfl,rfl,hes,by cases hk';exact hk⟩⟩
  have hL:(leftOf es (seen.push e.born)).toList=(leftOf es seen).toList.filter fun x=> !decide (x.born=e.born):=by
   simp only [leftOf,Array.toList_filter,List.filter_filter]
   refine List.filter_congr fun x _=>?_
   by_cases h1:x.born=e.born<;>simp [h1]
  rw[hL]
  have hsub:∀x∈(leftOf es seen).toList,x∈es.toList:=fun x hx=>by simp [leftOf] at hx ⊢;exact hx.1
  clear hL hset hsz hgr hSame hrun he h4
  revert h8 hsub
  generalize (leftOf es seen).toList=L
  clear hkl
  induction L generalizing left with
  | nil => intro h8 _; have : left = [] := by simpa using h8.symm
           subst this;rfl
  |cons x L ih=>
   intro h8 hsub
   cases left with
   |nil=>simp at h8
   |cons y left=>
    simp only [List.map_cons,List.cons.injEq] at h8
    have hi:=ih (left:=left) h8.2 fun z hz=>hsub z (List.mem_cons_of_mem _ hz)
    have hx:=hinj x (hsub x (List.mem_cons_self ..))
    rw[h8.1] at hx
    by_cases hxe:x.born=e.born
    ·have:y=k:=by have:=hx.1 hxe;injection this
     simp [List.filter_cons,hxe,this,hi]
    ·have:y≠k:=fun h=>hxe (hx.2 (by rw[h]))
     simp [List.filter_cons,hxe,this,hi,h8.1]
theorem ItRep.entry {S:Nat→Prop}{w:World}{m:List (ByteArray×Tree)}{left:List ByteArray}{k:ByteArray}{v:Value}(h:ItRep S w m left (some k) v):
  ∃y,RepT w S ((zai m k).getD .nil) y∧k.size≤140737488351232∧(Instr.entry v).run P w= .ok (.tuple #[.string k,y]) w:=by
 obtain ⟨b,r,es,clock,since,seen,c0,rfl,hnd,h2,h3,h4,h5,h6,h7,h7',h8,h9⟩:=h
 obtain ⟨e,seen',rfl,rfl,he,hk⟩:=h9 k rfl
 obtain ⟨k',hk',hks,hval⟩:=zjs h2 h3 hnd he
 rw[hk] at hk';cases hk'
 exact ⟨e.val,hval,hks,by rw[run_entry_at w b r since seen' es c0 e h4 h3 he h5,hk]⟩
end
end Go.Smd
end
