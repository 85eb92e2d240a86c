/- Part 3. -/
import Derived.Test.YtdgnolbdcmgfoaaGreatQD02
import Derived.Defers
set_option linter.unusedVariables false
set_option linter.unusedSimpArgs false
set_option maxRecDepth 100000
set_option maxHeartbeats 8000000
section
namespace Go.Smd
open Go.RowKit
inductive Cl where
 |d (x:D)
 |own (id off:Nat)
 |gs (id ver:Nat)
 |ga (id ver sz i:Nat)
 |io (T:TypeId) (id off:Nat)
 |fn (id:Nat)
 |un
inductive Av where
 |c (x:Cl)
 |agg (xs:List Cl)
 |tup (xs:List (Bool×List Cl))
 |any
mutual
inductive ST where
 |mk (tP tN:TypeId) (ms:List (List D)) (ks:SK)
inductive SK where
 |nil
 |cons (c:List D) (s:ST) (r:SK)
end
inductive Hd where
 |fn (f:FuncId)
 |it (m:List (ByteArray×Tree)) (left:List ByteArray) (cur:Option ByteArray)
 |set (F:List Nat) (t:ST)
 |pin (v:Value) (E:TypeId) (xs:List (List D))
inductive Ow where
 |cells (xs:List Cl) (T:TypeId)
 |arr (ver:Nat) (E:TypeId) (xs:List (List D))
 |clo (f:Hd) (xs:List Cl)
structure St where
 tmps:List (Nat×Av)
 own:List (Nat×Ow)
def Cl.ids:Cl→List Nat
 | .own id _| .gs id _| .ga id _ _ _| .io _ id _| .fn id=>[id]
 |_=>[]
def Av.ids:Av→List Nat
 | .c x=>x.ids
 | .agg xs=>xs.flatMap Cl.ids
 | .tup xs=>xs.flatMap fun p=>p.2.flatMap Cl.ids
 | .any=>[]
def Ow.ids:Ow→List Nat
 | .cells xs _=>xs.flatMap Cl.ids
 | .arr .. =>[]
 | .clo _ xs=>xs.flatMap Cl.ids
def Hd.fp:Hd→List Nat
 | .set F _=>F
 |_=>[]
def Ow.fp:Ow→List Nat
 | .clo f _=>f.fp
 |_=>[]
def Cl.deepN (h:Nat→Option Ow):Nat→Cl→List Nat
 |0,x=>x.ids
 |n+1,.own id _=>id::(match h id with|some (.cells xs _)=>xs.flatMap (Cl.deepN h n)|_=>[])
 |n+1,.io _ id _=>id::(match h id with|some (.cells xs _)=>xs.flatMap (Cl.deepN h n)|_=>[])
 |_+1,.gs id _=>[id]
 |_+1,.ga id _ _ _=>[id]
 |n+1,.fn id=>id::(match h id with|some (.clo _ xs)=>xs.flatMap (Cl.deepN h n)|_=>[])
 |_+1,_=>[]
def Cl.deep (h:Nat→Option Ow)(x:Cl):List Nat:=x.deepN h 6
def Av.deep (h:Nat→Option Ow):Av→List Nat
 | .c x=>x.deep h
 | .agg xs=>xs.flatMap (Cl.deep h)
 | .tup xs=>xs.flatMap fun p=>p.2.flatMap (Cl.deep h)
 | .any=>[]
def zd {α:Type}:List (Nat×α)→Nat→Option α
 | [],_=>none
 |(k,x)::l,n=>if k=n then some x else zd l n
def zcu {α β:Type}(g:Nat→Nat)(f:α→β):List (Nat×α)→List (Nat×β)
 | []=>[]
 |(k,x)::l=>(g k,f x)::zcu g f l
def zcM {α β:Type}(f:α→β):List (Nat×α)→List (Nat×β)
 | []=>[]
 |(k,x)::l=>(k,f x)::zcM f l
def zbt {α:Type}(p:Nat→Bool):List (Nat×α)→List (Nat×α)
 | []=>[]
 |(k,x)::l=>match p k with|true=>(k,x)::zbt p l|false=>zbt p l
theorem zer {α β:Type}(g:Nat→Nat)(f:α→β):∀l:List (Nat×α),zcu g f l=l.map fun p=>(g p.1,f p.2)
 | []=>rfl
 |(k,x)::l=>by rw[zcu,zer g f l];rfl
theorem zcm {α β:Type}(f:α→β):∀l:List (Nat×α),zcM f l=l.map fun p=>(p.1,f p.2)
 | []=>rfl
 |(k,x)::l=>by rw[zcM,zcm f l];rfl
theorem zdQ {α:Type}(p:Nat→Bool):∀l:List (Nat×α),zbt p l=l.filter fun q=>p q.1
 | []=>rfl
 |(k,x)::l=>by
  rw[zbt,zdQ p l,List.filter_cons]
  cases p k<;>rfl
def St.tmp (σ:St)(t:Nat):Av:=(zd σ.tmps t).getD .any
def St.h (σ:St):Nat→Option Ow:=zd σ.own
def St.put (σ:St)(dst:Option Tmp)(x:Av):St:=match dst with|some d=>{ σ with tmps:=(d,x)::σ.tmps }|none=>σ
def bk:Value→Option Nat
 | .pointer (some a)=>some a.block
 |v=>v.ownBlock
def RDs (P:Program)(w:World)(S:Nat→Prop)(xs:List D)(us:List Value):Prop:=All2 (RepD P w S) xs us
theorem zr (P:Program):Framed (RDs P):=⟨fun h e hs=>All2.imp h fun _ _ _ k=>k.frame e hs,fun h=>All2.imp h fun _ _ _ k=>k.lt⟩
def occ (v:Value)(o:Ow)(b:Nat):Prop:=bk v=some b∨b∈o.fp
theorem ZN {v:Value}{xs:List Cl}{T:TypeId}{b:Nat}:occ v (.cells xs T) b↔bk v=some b:=by simp [occ,Ow.fp]
theorem Z5 {v:Value}{k:Nat}{xs:List (List D)}{T:TypeId}{b:Nat}:occ v (.arr k T xs) b↔bk v=some b:=by simp [occ,Ow.fp]
theorem zkw {v:Value}{f:FuncId}{xs:List Cl}{b:Nat}:occ v (.clo (.fn f) xs) b↔bk v=some b:=by simp [occ,Ow.fp,Hd.fp]
theorem zfE (b j:Nat):(⟨b,0,none⟩:Addr).add j=⟨b,j,none⟩:=by unfold Addr.add;split<;>simp_all
def zaN:SK→List Nat→List (List D)
 | .cons c _ r,b::bs=>(c++ [.v (.pointer (some ⟨b,0,none⟩))])::zaN r bs
 |_,_=>[]
mutual
def zkx:ST→List D
 | .mk tP tN ms ks=>[.sl tP ms,.sl tN (nodeD ks)]
def nodeD:SK→List (List D)
 | .nil=>[]
 | .cons c s r=>(c++ [.pt (zkx s)])::nodeD r
end
section
variable (P:Program) (S:Nat→Prop) (w:World)
def zly (P:Program)(E:TypeId)(xs:List (List D)):Prop:=xs.length*P.bytesOf E≤140737488351232∧∀x∈xs,x.length=P.cellsOf E
mutual
def HasS:ST→Nat→List Nat→Prop
 | .mk tP tN ms ks,b,F=>∃vm vc T bs G,w.heap[b]? =some (.cells #[vm,vc] T (0,0))∧Build (RDs P) tP (P.cellsOf tP) (fun k=>vm.ownBlock=some k) S w vm ms∧Build (RDs P) tN (P.cellsOf tN) (fun k=>vc.ownBlock=some k) S w vc (zaN ks bs)∧
   HasK ks bs G∧F=b::(vm.ownBlock.toList++(vc.ownBlock.toList++G))∧F.Nodup∧zly P tP ms∧zly P tN (zaN ks bs)
def HasK:SK→List Nat→List Nat→Prop
 | .nil,bs,G=>bs= []∧G= []
 | .cons _ s r,bs,G=>∃b bs' F1 F2,bs=b::bs'∧HasS s b F1∧HasK r bs' F2∧G=F1++F2
end
end
section
variable {P:Program} {S S':Nat→Prop} {w w':World}
mutual
theorem HasS.frame:∀(t:ST) {b:Nat} {F:List Nat},HasS P S w t b F→Same S w w'→(∀x∈F,w'.heap[x]? =w.heap[x]?)→(∀x,S x→S' x)→HasS P S' w' t b F
 | .mk tP tN ms ks,b,F,h,e,hF,hS=>by
  simp only [HasS] at h ⊢
  obtain ⟨vm,vc,T,bs,G,h1,h2,h3,h4,rfl,h6,h7⟩:=h
  refine ⟨vm,vc,T,bs,G,(hF b (List.mem_cons_self ..)).trans h1,h2.frame (zr P) (fun x hx=>hF x ?_) (fun x hx=>e x hx.1) (fun _ h=>h) hS,h3.frame (zr P) (fun x hx=>hF x ?_) (fun x hx=>e x hx.1) (fun _ h=>h) hS,HasK.frame ks h4 e (fun x hx=>hF x (List.mem_cons_of_mem _ (by simp [hx]))) hS,rfl,h6,h7⟩
  ·exact List.mem_cons_of_mem _ (by simp [show vm.ownBlock=some x from hx])
  ·exact List.mem_cons_of_mem _ (by simp [show vc.ownBlock=some x from hx])
theorem HasK.frame:∀(ks:SK) {bs G:List Nat},HasK P S w ks bs G→Same S w w'→(∀x∈G,w'.heap[x]? =w.heap[x]?)→(∀x,S x→S' x)→HasK P S' w' ks bs G
 | .nil,bs,G,h,_,_,_=>by simp only [HasK] at h ⊢;exact h
 | .cons c s r,bs,G,h,e,hF,hS=>by
  simp only [HasK] at h ⊢
  obtain ⟨b,bs',F1,F2,h1,h2,h3,rfl⟩:=h
  exact ⟨b,bs',F1,F2,h1,HasS.frame s h2 e (fun x hx=>hF x (List.mem_append_left _ hx)) hS,HasK.frame r h3 e (fun x hx=>hF x (List.mem_append_right _ hx)) hS,rfl⟩
end
theorem HasS.mem {t:ST}{b:Nat}{F:List Nat}(h:HasS P S w t b F):b∈F:=by
 cases t with
 |mk tP tN ms ks=>
  simp only [HasS] at h
  obtain ⟨_,_,_,_,_,_,_,_,_,rfl,_⟩:=h
  exact List.mem_cons_self ..
theorem Build.data {E:TypeId}{S0:Nat→Prop}{v:Value}{xs ys:List (List D)}(h:Build (RDs P) E (P.cellsOf E) S0 S w v xs)(hx:zly P E xs)(hl:ys.length=xs.length)
  (hy:∀(j:Nat) (x y:List D),xs[j]? =some x→ys[j]? =some y→y.length=x.length∧∀us,RDs P w S x us→RDs P w S' y us) (hB:∀k,v.ownBlock=some k→S' k):RepD P w S' (.sl E ys) v:=by
 obtain ⟨A,c,hs⟩:=h.slice
 have hc:xs.length≤c:=by
  obtain ⟨cs,ho,_⟩:=h
  rcases ho.2 with ⟨h5,h6⟩|⟨g,cap,cur,h5,_,_,h6,_⟩
  ·rw[hs] at h5;injection h5 with _ h7 h8;omega
  ·rw[hs] at h5;injection h5 with _ _ h8;omega
 have len:∀(j:Nat) (y:List D),ys[j]? =some y→∃x,xs[j]? =some x∧y.length=x.length∧∀us,RDs P w S x us→RDs P w S' y us:=fun j y hj=>by
  have hlt:=(List.getElem?_eq_some_iff.1 hj).1
  have h1:=List.getElem?_eq_getElem (l:=xs) (i:=j) (by omega)
  exact ⟨_,h1,hy j _ y h1 hj⟩
 rw[hs]
 rw[hs] at hB
 refine RepD.sl_iff.2 ⟨A,c,by rw[hl],by omega,by rw[hl];exact hx.1,fun j y hj=>?_⟩
 obtain ⟨x,hxj,hxl,hxy⟩:=len j y hj
 refine ⟨by rw[hxl];exact hx.2 x (List.mem_of_getElem? hxj),fun h0=>?_⟩
 obtain ⟨A',c',hs',_,hrow⟩:=h.done (zr P) h0
 rw[hs] at hs';cases hs'
 obtain ⟨ad,cs,ha,_,hr,hcl,hcells⟩:=hrow j x hxj
 refine ⟨ad,ha,fun i d hi=>?_⟩
 obtain ⟨u,hu,hd⟩:=All2.at (hxy cs hr) hi
 refine ⟨u,?_,hcells i u hu,hd⟩
 rw[zB]
 subst ha
 exact hB ad.block rfl
mutual
theorem HasS.data:∀(t:ST) {b:Nat} {F:List Nat},HasS P S w t b F→(∀x,S x→S' x)→(∀x∈F,S' x)→RepD P w S' (.pt (zkx t)) (.pointer (some ⟨b,0,none⟩))
 | .mk tP tN ms ks,b,F,h,hS,hF=>by
  simp only [HasS] at h
  obtain ⟨vm,vc,T,bs,G,h1,h2,h3,h4,rfl,_,h6,h7⟩:=h
  have d1:RepD P w S' (.sl tP ms) vm:=h2.data h6 rfl (fun j x y hx hy=>by rw[hx] at hy;cases hy;exact ⟨rfl,fun us k=>(zr P).frame k (fun _ _=>rfl) hS⟩) fun k hk=>hF k (by simp [hk])
  obtain ⟨l1,l2⟩:=HasK.data ks h4 hS fun x hx=>hF x (by simp [hx])
  have d2:RepD P w S' (.sl tN (nodeD ks)) vc:=h3.data h7 l1 l2 fun k hk=>hF k (by simp [hk])
  refine RepD.pt_iff.2 ⟨_,rfl,fun i d hi=>?_⟩
  simp only [zkx] at hi
  match i,hi with
  |0,hi=>simp at hi;subst hi;exact ⟨vm,hF b (List.mem_cons_self ..),by rw[zfE];exact zh h1 rfl,d1⟩
  |1,hi=>simp at hi;subst hi;exact ⟨vc,hF b (List.mem_cons_self ..),by rw[zfE];exact zh h1 rfl,d2⟩
theorem HasK.data:∀(ks:SK) {bs G:List Nat},HasK P S w ks bs G→(∀x,S x→S' x)→(∀x∈G,S' x)→(nodeD ks).length=(zaN ks bs).length∧∀(j:Nat) (x y:List D),(zaN ks bs)[j]? =some x→(nodeD ks)[j]? =some y→y.length=x.length∧∀us,RDs P w S x us→RDs P w S' y us
 | .nil,bs,G,h,_,_=>by
  simp only [HasK] at h
  obtain ⟨rfl,rfl⟩:=h
  exact ⟨rfl,fun j x y hx=>by simp [zaN] at hx⟩
 | .cons c s r,bs,G,h,hS,hF=>by
  simp only [HasK] at h
  obtain ⟨b,bs',F1,F2,rfl,h2,h3,rfl⟩:=h
  obtain ⟨l1,l2⟩:=HasK.data r h3 hS fun x hx=>hF x (List.mem_append_right _ hx)
  have d:=HasS.data s h2 hS fun x hx=>hF x (List.mem_append_left _ hx)
  simp only [nodeD,zaN]
  refine ⟨by simp [l1],fun j x y hx hy=>?_⟩
  cases j with
  |zero=>
   simp at hx hy;subst hx;subst hy
   refine ⟨by simp,fun us k=>?_⟩
   have kk:∀(c:List D) (us:List Value),All2 (RepD P w S) (c++ [.v (.pointer (some ⟨b,0,none⟩))]) us→All2 (RepD P w S') (c++ [.pt (zkx s)]) us:=fun c=>by
    induction c with
    |nil=>
     intro us k
     obtain ⟨u,us',rfl,ku,k2⟩:=k.inv
     cases k2.inv0
     cases ku with
     |v _=>exact .cons d .nil
    |cons a c ih=>
     intro us k
     obtain ⟨u,us',rfl,ku,k2⟩:=k.inv
     exact .cons (RepD.mono ku hS) (ih us' k2)
   exact kk c us k
  |succ j=>
   simp at hx hy
   exact l2 j x y hx hy
end
end
def HdRep (P:Program)(S:Nat→Prop)(w:World)(k:Hd)(v:Value)(us:List Value):Prop:=
 match k with
 | .fn f=>v= .func (.func f) #[] (List.toArray us)
 | .it m left cur=>us= []∧ItRep S w m left cur v
 | .set F t=>us= []∧∃b,v= .pointer (some ⟨b,0,none⟩)∧HasS P S w t b F
 | .pin v0 E xs=>us= []∧v=v0∧Build (RDs P) E (P.cellsOf E) (fun _=>True) S w v xs∧xs.length*P.bytesOf E≤140737488351232∧∀x∈xs,x.length=P.cellsOf E
theorem HdRep.frame {P:Program}{S S':Nat→Prop}{w w':World}{k:Hd}{v:Value}{us:List Value}(h:HdRep P S w k v us)(hS:∀b,S b→S' b)(e:Same S w w')(hb:∀b,bk v=some b∨b∈k.fp→w'.heap[b]? =w.heap[b]?):HdRep P S' w' k v us:=by
 cases k with
 |fn f=>exact h
 |it m left cur=>exact ⟨h.1,h.2.frame hS e fun b hv=>hb b (.inl (by rw[hv];rfl))⟩
 |set F t=>
  obtain ⟨h1,b,h2,h3⟩:=h
  exact ⟨h1,b,h2,h3.frame t e (fun x hx=>hb x (.inr hx)) hS⟩
 |pin v0 E xs=>
  obtain ⟨h1,h2,h3,h4⟩:=h
  have hk:∀{S1 S2:Nat→Prop},Build (RDs P) E (P.cellsOf E) S1 S' w' v xs→(∀b,v.ownBlock=some b→S2 b)→Build (RDs P) E (P.cellsOf E) S2 S' w' v xs:=fun ⟨cs,k1,_,k2⟩ k=>⟨cs,k1,k,k2⟩
  have h3':Build (RDs P) E (P.cellsOf E) (fun b=>v.ownBlock=some b) S w v xs:=by
   obtain ⟨cs,k1,_,k2⟩:=h3
   exact ⟨cs,k1,fun _ h=>h,k2⟩
  refine ⟨h1,h2,hk (h3'.frame (zr P) (S':=fun b=>v.ownBlock=some b) (fun b hob=>hb b (.inl ?_)) (fun b hb=>e b hb.1) (fun _ h=>h) hS) (fun _ _=>trivial),h4⟩
  obtain ⟨A,c,hs⟩:=h3'.slice
  rw[hs] at hob ⊢;exact hob
theorem HdRep.mono {P:Program}{S S':Nat→Prop}{w:World}{k:Hd}{v:Value}{us:List Value}(h:HdRep P S w k v us)(hS:∀b,S b→S' b):HdRep P S' w k v us:=h.frame hS (fun _ _=>rfl) fun _ _=>rfl
section
variable (P:Program) (S:Nat→Prop) (β:Nat→Value) (h:Nat→Option Ow) (w:World)
def RepC:Cl→Value→Prop
 | .d x,v=>RepD P w S x v
 | .own id off,v=>∃xs T b,h id=some (.cells xs T)∧β id= .pointer (some ⟨b,0,none⟩)∧v= .pointer (some ⟨b,off,none⟩)
 | .gs id k,v=>∃ver E xs,h id=some (.arr ver E xs)∧k≤ver∧(k=ver→v=β id)∧v.oneCell'=true
 | .ga id k sz i,v=>∃ver E xs,h id=some (.arr ver E xs)∧k≤ver∧(k=ver→∃b n c,β id= .slice (some ⟨b,0,none⟩) n c∧v= .pointer (some ⟨b,i*sz,none⟩))∧v.oneCell'=true
 | .io T id off,v=>∃xs T' b,h id=some (.cells xs T')∧β id= .pointer (some ⟨b,0,none⟩)∧v= .iface T (.pointer (some ⟨b,off,none⟩))
 | .fn id,v=>∃f xs,h id=some (.clo f xs)∧v=β id∧v.oneCell'=true
 | .un,v=>v.oneCell'=true
def RepP (p:Bool×List Cl)(u:Value):Prop:=if p.1 then ∃us,u= .agg (List.toArray us)∧All2 (RepC P S β h w) p.2 us else ∃x,p.2= [x]∧RepC P S β h w x u
def RepA:Av→Value→Prop
 | .c x,v=>RepC P S β h w x v
 | .agg xs,v=>∃us,v= .agg (List.toArray us)∧All2 (RepC P S β h w) xs us
 | .tup xs,v=>∃us,v= .tuple (List.toArray us)∧All2 (RepP P S β h w) xs us
 | .any,_=>True
def zky (v:Value):Ow→Prop
 | .cells xs T=>∃b us,v= .pointer (some ⟨b,0,none⟩)∧w.heap[b]? =some (.cells (List.toArray us) T (0,0))∧All2 (RepC P S β h w) xs us
 | .arr _ E xs=>Build (RDs P) E (P.cellsOf E) (fun _=>True) S w v xs∧xs.length*P.bytesOf E≤140737488351232∧∀x∈xs,x.length=P.cellsOf E
 | .clo f xs=>∃us,HdRep P S w f v us∧All2 (RepC P S β h w) xs us
end
structure Env where
 S:Nat→Prop
 K:Nat→Prop
 h0:Nat→Option Ow
 β0:Nat→Value
def zed:Nat:=1000000000
def Sd (w0:World)(S0:Env)(β:Nat→Value)(h:Nat→Option Ow)(w:World)(b:Nat):Prop:=(S0.S b∨¬S0.K b)∧b<w.heap.size∧∀id o,h id=some o→¬occ (β id) o b
structure KExt (K:Nat→Prop) (w w':World):Prop where
 os:w'.os=w.os
 tape:w'.tape=w.tape
 output:w'.output=w.output
 size:w.heap.size≤w'.heap.size
 block:∀b,K b→w'.heap[b]? =w.heap[b]?
theorem KExt.refl (K:Nat→Prop)(w:World):KExt K w w:=⟨rfl,rfl,rfl,Nat.le_refl _,fun _ _=>rfl⟩
theorem KExt.trans {K:Nat→Prop}{a b c:World}(h:KExt K a b)(k:KExt K b c):KExt K a c:=
 ⟨k.os.trans h.os,k.tape.trans h.tape,k.output.trans h.output,Nat.le_trans h.size k.size,fun i hi=>(k.block i hi).trans (h.block i hi)⟩
theorem KExt.mono {K K':Nat→Prop}{a b:World}(h:KExt K a b)(hk:∀i,K' i→K i):KExt K' a b:=⟨h.os,h.tape,h.output,h.size,fun i hi=>h.block i (hk i hi)⟩
theorem KExt.ofExt {a b:World}(h:Ext a b):KExt (· <a.heap.size) a b:=⟨h.os,h.tape,h.output,h.size,fun i hi=>h.block i hi⟩
theorem KExt.toExt {a b:World}{K:Nat→Prop}(h:KExt K a b)(hK:∀i,i<a.heap.size→K i):Ext a b:=⟨h.os,h.tape,h.output,h.size,fun i hi=>h.block i (hK i hi)⟩
theorem KExt.ext {K:Nat→Prop}{a b c:World}(h:KExt K a b)(e:Ext b c)(hK:∀i,K i→i<a.heap.size):KExt K a c:=h.trans ((KExt.ofExt e).mono fun i hi=>Nat.lt_of_lt_of_le (hK i hi) h.size)
def zav (o0:Ow)(v0:Value)(o:Ow)(v:Value):Prop:=
 match o0,o with
 | .cells ..,.cells .. =>v=v0
 | .clo ..,.clo .. =>v=v0
 | .arr k ..,.arr n .. =>k≤n∧(k=n→v=v0)
 |_,_=>False
def zoK (P:Program)(d:Deferred):Prop:=∃fv cap f args,d.target= .fn fv cap∧∀w,(invoke d.target d.args).run P w= .ok (.enter f args) w∧CallsD P f args .returning w fun e u' w'=>∃v,e= .returned v∧u'= .returning∧w'=w
structure Sim (P:Program) (N:Nat) (w0:World) (S0:Env) (β:Nat→Value) (σ:St) (a:Act) (w:World):Prop where
 ext:KExt S0.K w0 w
 hK:∀b,S0.K b→b<w0.heap.size
 kept:∀id o0,S0.h0 id=some o0→zed≤id∧∀o,σ.h id=some o→zav o0 (S0.β0 id) o (β id)
 inj:∀i j oi oj b,σ.h i=some oi→σ.h j=some oj→occ (β i) oi b→occ (β j) oj b→i=j
 new:∀i o b,σ.h i=some o→occ (β i) o b→¬S0.K b∧b<w.heap.size
 own:∀i o,σ.h i=some o→zky P (Sd w0 S0 β σ.h w) β σ.h w (β i) o
 tmp:∀t,RepA P (Sd w0 S0 β σ.h w) β σ.h w (σ.tmp t) (a.tmps.getD t undef)
 sz:a.tmps.size=N
 dfr:∀d∈a.defers,zoK P d
section
variable {P:Program} {S S':Nat→Prop} {β β':Nat→Value} {h h':Nat→Option Ow} {w w':World}
theorem RepC.one {x:Cl}{v:Value}(k:RepC P S β h w x v):v.oneCell'=true:=by
 cases x with
 |d x=>exact RepD.one k
 |own id off=>obtain ⟨_,_,_,_,_,rfl⟩:=k;rfl
 |gs id n=>obtain ⟨_,_,_,_,_,_,h1⟩:=k;exact h1
 |ga id n sz i=>obtain ⟨_,_,_,_,_,_,h1⟩:=k;exact h1
 |io T id off=>obtain ⟨_,_,_,_,_,rfl⟩:=k;rfl
 |fn id=>obtain ⟨_,_,_,_,h1⟩:=k;exact h1
 |un=>exact k
structure Steps' (P:Program) (S S':Nat→Prop) (β β':Nat→Value) (h h':Nat→Option Ow) (w w':World):Prop where
 d:∀x v,RepD P w S x v→RepD P w' S' x v
 own:∀id xs T,h id=some (.cells xs T)→(∃xs' T',h' id=some (.cells xs' T'))∧β' id=β id
 gs:∀id ver E xs,h id=some (.arr ver E xs)→∃ver' E' xs',h' id=some (.arr ver' E' xs')∧ver≤ver'∧(ver=ver'→β' id=β id)
 fn:∀id f xs,h id=some (.clo f xs)→(∃f' xs',h' id=some (.clo f' xs'))∧β' id=β id
theorem RepC.step (k:Steps' P S S' β β' h h' w w'){x:Cl}{v:Value}(r:RepC P S β h w x v):RepC P S' β' h' w' x v:=by
 cases x with
 |d x=>exact k.d x v r
 |own id off=>
  obtain ⟨xs,T,b,h1,h2,h3⟩:=r
  obtain ⟨⟨xs',T',h4⟩,h5⟩:=k.own id xs T h1
  exact ⟨xs',T',b,h4,h5.trans h2,h3⟩
 |gs id n=>
  obtain ⟨ver,E,xs,h1,h2,h3,h4⟩:=r
  obtain ⟨ver',E',xs',h5,h6,h7⟩:=k.gs id ver E xs h1
  exact ⟨ver',E',xs',h5,Nat.le_trans h2 h6,fun e=>by
   have e1:n=ver:=by omega
   have e2:ver=ver':=by omega
   rw[h3 e1,h7 e2],h4⟩
 |ga id n sz i=>
  obtain ⟨ver,E,xs,h1,h2,h3,h4⟩:=r
  obtain ⟨ver',E',xs',h5,h6,h7⟩:=k.gs id ver E xs h1
  exact ⟨ver',E',xs',h5,Nat.le_trans h2 h6,fun e=>by
   have e1:n=ver:=by omega
   have e2:ver=ver':=by omega
   rw[h7 e2];exact h3 e1,h4⟩
 |io T id off=>
  obtain ⟨xs,T,b,h1,h2,h3⟩:=r
  obtain ⟨⟨xs',T',h4⟩,h5⟩:=k.own id xs T h1
  exact ⟨xs',T',b,h4,h5.trans h2,h3⟩
 |fn id=>
  obtain ⟨f,xs,h1,h2,h3⟩:=r
  obtain ⟨⟨f',xs',h4⟩,h5⟩:=k.fn id f xs h1
  exact ⟨f',xs',h4,by rw[h5];exact h2,h3⟩
 |un=>exact r
theorem RepP.step (k:Steps' P S S' β β' h h' w w'){x:Bool×List Cl}{v:Value}(r:RepP P S β h w x v):RepP P S' β' h' w' x v:=by
 unfold RepP at*
 split at r
 ·next hb=>rw[if_pos hb];obtain ⟨us,hu,ha⟩:=r;exact ⟨us,hu,ha.imp fun _ _ _ r=>r.step k⟩
 ·next hb=>rw[if_neg hb];obtain ⟨y,hy,hr⟩:=r;exact ⟨y,hy,hr.step k⟩
theorem RepA.step (k:Steps' P S S' β β' h h' w w'){x:Av}{v:Value}(r:RepA P S β h w x v):RepA P S' β' h' w' x v:=by
 cases x with
 |c x=>exact RepC.step k r
 |agg xs=>obtain ⟨us,hu,ha⟩:=r;exact ⟨us,hu,ha.imp fun _ _ _ r=>r.step k⟩
 |tup xs=>obtain ⟨us,hu,ha⟩:=r;exact ⟨us,hu,ha.imp fun _ _ _ r=>RepP.step k r⟩
 |any=>trivial
end
section
variable {P:Program} {N:Nat} {w0:World} {S0:Env} {β:Nat→Value} {σ:St} {a:Act} {w:World}
theorem Sim.put (s:Sim P N w0 S0 β σ a w){dst:Option Tmp}{x:Av}{v:Value}(hd:∀d,dst=some d→d<N)(r:RepA P (Sd w0 S0 β σ.h w) β σ.h w x v):Sim P N w0 S0 β (σ.put dst x) (a.put dst v) w:=by
 cases dst with
 |none=>exact s
 |some d=>
  refine ⟨s.ext,s.hK,s.kept,s.inj,s.new,s.own,fun t=>?_,by simp [Act.put,s.sz],s.dfr⟩
  have hdN:=hd d rfl
  by_cases e:d=t
  ·subst e
   have:(a.put (some d) v).tmps.getD d undef=v:=by simp [Act.put,s.sz,hdN]
   rw[this]
   have:(σ.put (some d) x).tmp d=x:=by simp [St.put,St.tmp,zd]
   rw[this];exact r
  ·have h1:(a.put (some d) v).tmps.getD t undef=a.tmps.getD t undef:=by simp [Act.put,Array.getElem?_setIfInBounds,e]
   have h2:(σ.put (some d) x).tmp t=σ.tmp t:=by simp [St.put,St.tmp,zd,e]
   rw[h1,h2];exact s.tmp t
theorem Sim.grow (s:Sim P N w0 S0 β σ a w){w':World}(e:Ext w w'):Sim P N w0 S0 β σ a w'∧Steps' P (Sd w0 S0 β σ.h w) (Sd w0 S0 β σ.h w') β β σ.h σ.h w w':=by
 have hS:∀b,Sd w0 S0 β σ.h w b→Sd w0 S0 β σ.h w' b:=fun b hb=>⟨hb.1,Nat.lt_of_lt_of_le hb.2.1 e.size,hb.2.2⟩
 have k:Steps' P (Sd w0 S0 β σ.h w) (Sd w0 S0 β σ.h w') β β σ.h σ.h w w':=⟨fun x v r=>(r.ext e).mono hS,fun id xs T hh=>⟨⟨xs,T,hh⟩,rfl⟩,fun id ver E xs hh=>⟨ver,E,xs,hh,Nat.le_refl _,fun _=>rfl⟩,fun id f xs hh=>⟨⟨f,xs,hh⟩,rfl⟩⟩
 refine ⟨⟨s.ext.ext e s.hK,s.hK,s.kept,s.inj,fun i o b hi hb=>⟨(s.new i o b hi hb).1,Nat.lt_of_lt_of_le (s.new i o b hi hb).2 e.size⟩,fun i o hi=>?_,fun t=>(s.tmp t).step k,s.sz,s.dfr⟩,k⟩
 have:=s.own i o hi
 cases o with
 |cells xs T=>obtain ⟨b,us,h1,h2,h3⟩:=this;exact ⟨b,us,h1,e.heap h2,h3.imp fun _ _ _ r=>r.step k⟩
 |arr ver E xs=>
  obtain ⟨h1,h2,h3⟩:=this
  exact ⟨((h1.ext (zr P) e).frame (zr P) (fun _ _=>rfl) (fun _ _=>rfl) (fun _ h=>h) hS),h2,h3⟩
 |clo f xs=>obtain ⟨us,h1,h3⟩:=this;exact ⟨us,h1.frame hS (fun b hb=>e.block b hb.2.1) fun b hb=>e.block b (s.new i _ b hi hb).2,h3.imp fun _ _ _ r=>r.step k⟩
theorem Sim.given (s:Sim P N w0 S0 β σ a w){w':World}(e:Ext w w'){x:D}{v:Value}(r:RepD P w' (fun b=>Sd w0 S0 β σ.h w b∨w.heap.size≤b) x v):RepD P w' (Sd w0 S0 β σ.h w') x v:=
 r.lt.mono fun b hb=>by
  rcases hb.1 with h1|h1
  ·exact ⟨h1.1,hb.2,h1.2.2⟩
  ·exact ⟨.inr fun hk=>by have:=s.hK b hk;have:=s.ext.size;omega,hb.2,fun id o ho hc=>by have:=(s.new id o b ho hc).2;omega⟩
theorem zp3 {id:Nat}{o:Ow}{v:Value}{w':World}{b:Nat}(hid:σ.h id=none)(hv:∀b,occ v o b→b=w.heap.size)(hw:w.heap.size≤w'.heap.size)(hb:Sd w0 S0 β σ.h w b):
  Sd w0 S0 (fun i=>if i=id then v else β i) (fun i=>if i=id then some o else σ.h i) w' b:=⟨hb.1,Nat.lt_of_lt_of_le hb.2.1 hw,fun i o' ho=>by
 by_cases e:i=id
 ·simp only [e,if_true] at ho ⊢;cases ho;intro hc;have:=hv _ hc;have:=hb.2.1;omega
 ·simp only [e,if_false] at ho ⊢;exact hb.2.2 i o' ho⟩
def St.new (σ:St)(id:Nat)(o:Ow):St:={ σ with own:=(id,o)::σ.own }
theorem zt (σ:St)(id:Nat)(o:Ow):(σ.new id o).h=fun i=>if i=id then some o else σ.h i:=by
 funext i
 show (if id=i then some o else zd σ.own i)=_
 by_cases e:i=id
 ·subst e;simp
 ·rw[if_neg (Ne.symm e),if_neg e];rfl
theorem Sim.alloc (s:Sim P N w0 S0 β σ a w){id:Nat}{xs:List Cl}{us:List Value}(T:TypeId)(hz:id<zed)(hid:σ.h id=none)(r:All2 (RepC P (Sd w0 S0 β σ.h w) β σ.h w) xs us):
  Sim P N w0 S0 (fun i=>if i=id then .pointer (some ⟨w.heap.size,0,none⟩) else β i) (σ.new id (.cells xs T)) a (w.alloc (.cells us.toArray T))∧
  RepC P (Sd w0 S0 (fun i=>if i=id then .pointer (some ⟨w.heap.size,0,none⟩) else β i) (σ.new id (.cells xs T)).h (w.alloc (.cells us.toArray T))) (fun i=>if i=id then .pointer (some ⟨w.heap.size,0,none⟩) else β i) (σ.new id (.cells xs T)).h (w.alloc (.cells us.toArray T)) (.own id 0) (.pointer (some ⟨w.heap.size,0,none⟩)):=by
 have e:Ext w (w.alloc (.cells us.toArray T)):=(Ext.refl w).alloc _
 have hS:∀b,Sd w0 S0 β σ.h w b→Sd w0 S0 (fun i=>if i=id then .pointer (some ⟨w.heap.size,0,none⟩) else β i) (σ.new id (.cells xs T)).h (w.alloc (.cells us.toArray T)) b:=fun b hb=>by
  rw[zt];exact zp3 hid (fun b' hb'=>by have:=ZN.1 hb';simp [bk] at this;exact this.symm) e.size hb
 have k:Steps' P (Sd w0 S0 β σ.h w) (Sd w0 S0 (fun i=>if i=id then .pointer (some ⟨w.heap.size,0,none⟩) else β i) (σ.new id (.cells xs T)).h (w.alloc (.cells us.toArray T))) β (fun i=>if i=id then .pointer (some ⟨w.heap.size,0,none⟩) else β i) σ.h (σ.new id (.cells xs T)).h w (w.alloc (.cells us.toArray T)):=by
  refine ⟨fun x v r=>(r.ext e).mono hS,fun i ys T' hh=>?_,fun i ver E ys hh=>?_,fun i f ys hh=>?_⟩
  ·have hne:i≠id:=fun e=>by rw[e,hid] at hh;cases hh
   exact ⟨⟨ys,T',by rw[zt];simp [hne,hh]⟩,by simp [hne]⟩
  ·have hne:i≠id:=fun e=>by rw[e,hid] at hh;cases hh
   exact ⟨ver,E,ys,by rw[zt];simp [hne,hh],Nat.le_refl _,fun _=>by simp [hne]⟩
  ·have hne:i≠id:=fun e=>by rw[e,hid] at hh;cases hh
   exact ⟨⟨f,ys,by rw[zt];simp [hne,hh]⟩,by simp [hne]⟩
 refine ⟨⟨s.ext.ext e s.hK,s.hK,fun i o0 hi0=>⟨(s.kept i o0 hi0).1,fun o ho=>?_⟩,fun i j oi oj b hi hj hbi hbj=>?_,fun i o b hi hb=>?_,fun i o hi=>?_,fun t=>(s.tmp t).step k,s.sz,s.dfr⟩,⟨xs,T,w.heap.size,by rw[zt];simp,by simp,rfl⟩⟩
 ·have hz':=(s.kept i o0 hi0).1
  have hne:i≠id:=by omega
  rw[zt] at ho;simp only [hne,if_false] at ho
  simp only [hne,if_false]
  exact (s.kept i o0 hi0).2 o ho
 ·rw[zt] at hi hj
  by_cases ei:i=id<;>by_cases ej:j=id
  ·rw[ei,ej]
  ·simp only [ei,if_true,ej,if_false] at hbi hbj hj hi
   have:=(s.new j oj b hj hbj).2
   cases hi
   rw[ZN] at hbi
   simp [bk] at hbi;omega
  ·simp only [ei,if_false,ej,if_true] at hbi hbj hi hj
   have:=(s.new i oi b hi hbi).2
   cases hj
   rw[ZN] at hbj
   simp [bk] at hbj;omega
  ·simp only [ei,ej,if_false] at hi hj hbi hbj
   exact s.inj i j oi oj b hi hj hbi hbj
 ·rw[zt] at hi
  by_cases ei:i=id
  ·simp only [ei,if_true] at hb hi
   cases hi
   rw[ZN] at hb
   simp [bk] at hb;subst hb
   exact ⟨fun hk=>by have:=s.hK _ hk;have:=s.ext.size;omega,by rw[zz];omega⟩
  ·simp only [ei,if_false] at hi hb
   exact ⟨(s.new i o b hi hb).1,by rw[zz];have:=(s.new i o b hi hb).2;omega⟩
 ·by_cases ei:i=id
  ·rw[zt] at hi;simp only [ei,if_true] at hi;cases hi
   rw[ei]
   simp only [if_true]
   exact ⟨w.heap.size,us,rfl,heap_alloc_new w _,r.imp fun _ _ _ r=>r.step k⟩
  ·have hi':=hi
   rw[zt] at hi;simp only [ei,if_false] at hi
   have:=s.own i o hi
   simp only [ei,if_false]
   cases o with
   |cells ys T'=>obtain ⟨b,vs,h1,h2,h3⟩:=this;exact ⟨b,vs,h1,e.heap h2,h3.imp fun _ _ _ r=>r.step k⟩
   |arr ver E ys=>
    obtain ⟨h1,h2,h3⟩:=this
    exact ⟨((h1.ext (zr P) e).frame (zr P) (fun _ _=>rfl) (fun _ _=>rfl) (fun _ h=>h) hS),h2,h3⟩
   |clo f ys=>obtain ⟨vs,h1,h3⟩:=this;exact ⟨vs,h1.frame hS (fun b hb=>e.block b hb.2.1) fun b hb=>e.block b (s.new i _ b hi hb).2,h3.imp fun _ _ _ r=>r.step k⟩
theorem Sim.closure (s:Sim P N w0 S0 β σ a w){id:Nat}{xs:List Cl}{us:List Value}(f:FuncId)(hz:id<zed)(hid:σ.h id=none)(r:All2 (RepC P (Sd w0 S0 β σ.h w) β σ.h w) xs us):
  Sim P N w0 S0 (fun i=>if i=id then .func (.func f) #[] us.toArray else β i) (σ.new id (.clo (.fn f) xs)) a w∧
  RepC P (Sd w0 S0 (fun i=>if i=id then .func (.func f) #[] us.toArray else β i) (σ.new id (.clo (.fn f) xs)).h w) (fun i=>if i=id then .func (.func f) #[] us.toArray else β i) (σ.new id (.clo (.fn f) xs)).h w (.fn id) (.func (.func f) #[] us.toArray):=by
 have hS:∀b,Sd w0 S0 β σ.h w b→Sd w0 S0 (fun i=>if i=id then .func (.func f) #[] us.toArray else β i) (σ.new id (.clo (.fn f) xs)).h w b:=fun b hb=>⟨hb.1,hb.2.1,fun i o ho=>by
  rw[zt] at ho
  by_cases e:i=id
  ·simp only [e,if_true] at ho ⊢;cases ho;rw[zkw];simp [bk,Value.ownBlock]
  ·simp only [e,if_false] at ho ⊢;exact hb.2.2 i o ho⟩
 have k:Steps' P (Sd w0 S0 β σ.h w) (Sd w0 S0 (fun i=>if i=id then .func (.func f) #[] us.toArray else β i) (σ.new id (.clo (.fn f) xs)).h w) β (fun i=>if i=id then .func (.func f) #[] us.toArray else β i) σ.h (σ.new id (.clo (.fn f) xs)).h w w:=by
  refine ⟨fun x v r=>r.mono hS,fun i ys T' hh=>?_,fun i ver E ys hh=>?_,fun i f ys hh=>?_⟩
  ·have hne:i≠id:=fun e=>by rw[e,hid] at hh;cases hh
   exact ⟨⟨ys,T',by rw[zt];simp [hne,hh]⟩,by simp [hne]⟩
  ·have hne:i≠id:=fun e=>by rw[e,hid] at hh;cases hh
   exact ⟨ver,E,ys,by rw[zt];simp [hne,hh],Nat.le_refl _,fun _=>by simp [hne]⟩
  ·have hne:i≠id:=fun e=>by rw[e,hid] at hh;cases hh
   exact ⟨⟨f,ys,by rw[zt];simp [hne,hh]⟩,by simp [hne]⟩
 refine ⟨⟨s.ext,s.hK,fun i o0 hi0=>⟨(s.kept i o0 hi0).1,fun o ho=>?_⟩,fun i j oi oj b hi hj hbi hbj=>?_,fun i o b hi hb=>?_,fun i o hi=>?_,fun t=>(s.tmp t).step k,s.sz,s.dfr⟩,⟨.fn f,xs,by rw[zt];simp,by simp,rfl⟩⟩
 ·have hz':=(s.kept i o0 hi0).1
  have hne:i≠id:=by omega
  rw[zt] at ho;simp only [hne,if_false] at ho
  simp only [hne,if_false]
  exact (s.kept i o0 hi0).2 o ho
 ·rw[zt] at hi hj
  by_cases ei:i=id
  ·simp only [ei,if_true] at hbi hi;cases hi;rw[zkw] at hbi;simp [bk,Value.ownBlock] at hbi
  ·by_cases ej:j=id
   ·simp only [ej,if_true] at hbj hj;cases hj;rw[zkw] at hbj;simp [bk,Value.ownBlock] at hbj
   ·simp only [ei,ej,if_false] at hi hj hbi hbj
    exact s.inj i j oi oj b hi hj hbi hbj
 ·rw[zt] at hi
  by_cases ei:i=id
  ·simp only [ei,if_true] at hb hi;cases hi;rw[zkw] at hb;simp [bk,Value.ownBlock] at hb
  ·simp only [ei,if_false] at hi hb
   exact s.new i o b hi hb
 ·by_cases ei:i=id
  ·rw[zt] at hi;simp only [ei,if_true] at hi;cases hi
   rw[ei]
   simp only [if_true]
   exact ⟨us,rfl,r.imp fun _ _ _ r=>r.step k⟩
  ·rw[zt] at hi;simp only [ei,if_false] at hi
   have:=s.own i o hi
   simp only [ei,if_false]
   cases o with
   |cells ys T'=>obtain ⟨b,vs,h1,h2,h3⟩:=this;exact ⟨b,vs,h1,h2,h3.imp fun _ _ _ r=>r.step k⟩
   |arr ver E ys=>
    obtain ⟨h1,h2,h3⟩:=this
    exact ⟨h1.frame (zr P) (fun _ _=>rfl) (fun _ _=>rfl) (fun _ h=>h) hS,h2,h3⟩
   |clo f ys=>obtain ⟨vs,h1,h3⟩:=this;exact ⟨vs,h1.mono hS,h3.imp fun _ _ _ r=>r.step k⟩
end
end Go.Smd
end
