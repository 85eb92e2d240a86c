/- Part 28 of the proof: Ja Jb Jc. -/
import Derived.Test.YtdgnolbdcmgfoaaGreatQO27
set_option linter.unusedVariables false
set_option linter.unusedSimpArgs false
set_option maxRecDepth 100000
set_option maxHeartbeats 8000000
section
namespace Go.Smd
open Go.RowKit Go.Proofs Go.Proofs.Tryz
mutual
inductive PS where
 |mk (ms:List EV) (ks:PK)
inductive PK where
 |nil
 |cons (e:EV) (s:PS) (r:PK)
end
def PS.ms:PS→List EV| .mk ms _=>ms
def PS.ks:PS→PK| .mk _ ks=>ks
def PS.empty:PS:=.mk [] .nil
def PK.es:PK→List EV
 | .nil=>[]
 | .cons e _ r=>e::r.es
def PK.ss:PK→List PS
 | .nil=>[]
 | .cons _ s r=>s::r.ss
theorem PK.ss_length:∀ks:PK,ks.ss.length=ks.es.length
 | .nil=>rfl
 | .cons e s r=>by simp only [PK.ss,PK.es,List.length_cons,PK.ss_length r]
def Zw (e:EV):PK→PS
 | .nil=>.empty
 | .cons x s r=>if zG x e<0 then Zw e r else if zG x e=0 then s else .empty
def zbz (e:EV)(t:PS):PK→PK
 | .nil=>.cons e t .nil
 | .cons x s r=>if zG x e<0 then .cons x s (zbz e t r) else if zG x e=0 then .cons x t r else .cons e t (.cons x s r)
def PS.ins:PS→List EV→PS
 |s,[]=>s
 | .mk ms ks,[e]=>.mk (zci e ms) ks
 | .mk ms ks,e::f::p=>.mk ms (zbz e ((Zw e ks).ins (f::p)) ks)
def mkP (l:List (List EV)):PS:=l.foldl (fun s p=>s.ins p) .empty
@[simp] theorem ztQ:mkP []= .empty:=rfl
theorem zdP (l:List (List EV))(p:List EV):mkP (l++ [p])=(mkP l).ins p:=by simp [mkP]
abbrev tPE:TypeId:=101
abbrev tSN:TypeId:=233
abbrev ziU:TypeId:=222
abbrev eD (e:EV):List D:=leD (z9 e)
mutual
def stP:PS→ST
 | .mk ms ks=>.mk tPE tSN (ms.map eD) (skP ks)
def skP:PK→SK
 | .nil=>.nil
 | .cons e s r=>.cons (eD e) (stP s) (skP r)
end
abbrev psD (s:PS):List D:=zkN (stP s)
abbrev pkD (k:PK):List (List D):=nodeD (skP k)
theorem zgW (ms:List EV)(ks:PK):psD (.mk ms ks)= [.sl tPE (ms.map eD),.sl tSN (pkD ks)]:=by simp only [psD,stP,zkN]
theorem zoE:pkD .nil= []:=by simp only [pkD,skP,nodeD]
theorem zgo (e:EV)(s:PS)(r:PK):pkD (.cons e s r)=(eD e++ [.pt (psD s)])::pkD r:=by simp only [pkD,skP,nodeD]
theorem zei:∀k:PK,(pkD k).length=k.es.length
 | .nil=>by rw[zoE];rfl
 | .cons e s r=>by rw[zgo];simp only [List.length_cons,PK.es,zei r]
mutual
def OkS (N:Nat):PS→Prop
 | .mk ms ks=>(∀e∈ms,GoodE e)∧zde ms∧ms.length≤N∧(∀e∈ks.es,GoodE e)∧zde ks.es∧ks.es.length≤N∧OkK N ks
def OkK (N:Nat):PK→Prop
 | .nil=>True
 | .cons _ s r=>OkS N s∧OkK N r
end
theorem zgX (N:Nat):OkS N .empty:=by simp [PS.empty,OkS,OkK,PK.es,zde]
theorem OkK.all {N:Nat}:∀{k:PK},OkK N k→∀s∈k.ss,OkS N s
 | .nil,_,s,h=>by simp [PK.ss] at h
 | .cons e t r,h,s,hs=>by
  simp only [OkK] at h
  simp only [PK.ss] at hs
  rcases List.mem_cons.1 hs with rfl|hs
  ·exact h.1
  ·exact h.2.all s hs
mutual
theorem OkS.mono {N M:Nat}(h:N≤M):∀{s:PS},OkS N s→OkS M s
 | .mk ms ks,k=>by
  simp only [OkS] at k ⊢
  exact ⟨k.1,k.2.1,by omega,k.2.2.2.1,k.2.2.2.2.1,by omega,OkK.mono h k.2.2.2.2.2.2⟩
theorem OkK.mono {N M:Nat}(h:N≤M):∀{s:PK},OkK N s→OkK M s
 | .nil,_=>by simp only [OkK]
 | .cons e s r,k=>by
  simp only [OkK] at k ⊢
  exact ⟨OkS.mono h k.1,OkK.mono h k.2⟩
end
theorem zdr {N:Nat}(e:EV):∀{k:PK},OkK N k→OkS N (Zw e k)
 | .nil,_=>zgX N
 | .cons x s r,h=>by
  simp only [OkK] at h
  simp only [Zw]
  split
  ·exact zdr e h.2
  ·split
   ·exact h.1
   ·exact zgX N
theorem zoF {N:Nat}(e:EV){t:PS}(ht:OkS N t):∀{k:PK},OkK N k→OkK N (zbz e t k)
 | .nil,_=>by simp only [zbz,OkK];exact ⟨ht,trivial⟩
 | .cons x s r,h=>by
  simp only [OkK] at h
  simp only [zbz]
  split
  ·simp only [OkK];exact ⟨h.1,zoF e ht h.2⟩
  ·split
   ·simp only [OkK];exact ⟨ht,h.2⟩
   ·simp only [OkK];exact ⟨ht,h⟩
theorem zoG (e:EV)(t:PS):∀k:PK,(zbz e t k).es=zci e k.es
 | .nil=>by simp only [zbz,PK.es,zci]
 | .cons x s r=>by
  simp only [zbz,PK.es,zci]
  split
  ·simp only [PK.es,zoG e t r]
  ·split<;>simp only [PK.es]
theorem zoH (e:EV):∀{k:PK} {x:EV},k.es[lbE e k.es]? =some x→zG x e=0→k.ss[lbE e k.es]? =some (Zw e k)
 | .nil,x,h,_=>by simp [PK.es] at h
 | .cons y s r,x,h,hx=>by
  simp only [PK.es,lbE] at h
  simp only [PK.es,PK.ss,lbE,Zw]
  split
  ·next hy=>rw[if_pos hy] at h;simp only [List.getElem?_cons_succ] at h ⊢;exact zoH e h hx
  ·next hy=>rw[if_neg hy] at h;simp at h;subst h;rw[if_pos hx];rfl
theorem zfS (e:EV)(t:PS):∀{k:PK},zgT e k.es→(zbz e t k).es=k.es∧(zbz e t k).ss=k.ss.set (lbE e k.es) t
 | .nil,⟨x,h,_⟩=>by simp [PK.es] at h
 | .cons y s r,⟨x,h,hx⟩=>by
  simp only [PK.es,lbE] at h
  simp only [PK.es,PK.ss,lbE,zbz]
  split
  ·next hy=>
   rw[if_pos hy] at h
   simp only [List.getElem?_cons_succ] at h
   obtain ⟨h1,h2⟩:=zfS e t (k:=r) ⟨x,h,hx⟩
   exact ⟨by simp only [PK.es,h1],by simp only [PK.ss,h2,List.set_cons_succ]⟩
  ·next hy=>
   rw[if_neg hy] at h;simp at h;subst h
   rw[if_pos hx]
   exact ⟨rfl,rfl⟩
theorem ziV (e:EV)(t:PS):∀{k:PK},¬zgT e k.es→(zbz e t k).es=Za (lbE e k.es) e k.es∧(zbz e t k).ss=Za (lbE e k.es) t k.ss
 | .nil,_=>by simp [zbz,PK.es,PK.ss,lbE,Za]
 | .cons y s r,hn=>by
  simp only [PK.es,PK.ss,zbz]
  split
  ·next hy=>
   have h1:lbE e (y::r.es)=lbE e r.es+1:=by simp only [lbE,if_pos hy]
   obtain ⟨h2,h3⟩:=ziV e t (k:=r) fun ⟨x,h,hx⟩=>hn ⟨x,by simp only [PK.es];rw[h1];simpa using h,hx⟩
   rw[h1]
   exact ⟨by simp only [PK.es,h2];simp [Za],by simp only [PK.ss,h3];simp [Za]⟩
  ·next hy=>
   have h1:lbE e (y::r.es)=0:=by simp only [lbE,if_neg hy]
   rw[if_neg fun h0=>hn ⟨y,by simp only [PK.es];rw[h1];rfl,h0⟩,h1]
   exact ⟨by simp [PK.es,Za],by simp [PK.ss,Za]⟩
theorem zmD (e:EV):∀{k:PK},¬zgT e k.es→Zw e k= .empty
 | .nil,_=>rfl
 | .cons y s r,hn=>by
  simp only [Zw]
  split
  ·next hy=>
   have h1:lbE e (y::r.es)=lbE e r.es+1:=by simp only [lbE,if_pos hy]
   exact zmD e fun ⟨x,h,hx⟩=>hn ⟨x,by simp only [PK.es];rw[h1];simpa using h,hx⟩
  ·next hy=>
   have h1:lbE e (y::r.es)=0:=by simp only [lbE,if_neg hy]
   rw[if_neg fun h0=>hn ⟨y,by simp only [PK.es];rw[h1];rfl,h0⟩]
theorem PS.ins_ok {N:Nat}:∀(p:List EV) {s:PS},OkS N s→(∀e∈p,GoodE e)→OkS (N+1) (s.ins p)
 | [],s,h,_=>by
  have e:s.ins []=s:=by cases s;simp only [PS.ins]
  rw[e];exact h.mono (by omega)
 | [e],.mk ms ks,h,hp=>by
  have he:=hp e (by simp)
  simp only [OkS] at h
  simp only [PS.ins,OkS]
  refine ⟨fun x hx=>?_,zgU he.o (fun x hx=>(h.1 x hx).o) h.2.1,?_,h.2.2.2.1,h.2.2.2.2.1,by omega,h.2.2.2.2.2.2.mono (by omega)⟩
  ·rcases zdO hx with rfl|hx
   ·exact he
   ·exact h.1 x hx
  ·have:=zeV e ms;omega
 |e::f::p,.mk ms ks,h,hp=>by
  have he:=hp e (by simp)
  simp only [OkS] at h
  simp only [PS.ins,OkS,zoG]
  refine ⟨h.1,h.2.1,by omega,fun x hx=>?_,zgU he.o (fun x hx=>(h.2.2.2.1 x hx).o) h.2.2.2.2.1,?_,zoF e (PS.ins_ok (f::p) (zdr e h.2.2.2.2.2.2) fun x hx=>hp x (List.mem_cons_of_mem _ hx)) (h.2.2.2.2.2.2.mono (by omega))⟩
  ·rcases zdO hx with rfl|hx
   ·exact he
   ·exact h.2.2.2.1 x hx
  ·have:=zeV e ks.es;omega
theorem zeW:∀(n:Nat) (l:List (List EV)),l.length=n→(∀p∈l,∀e∈p,GoodE e)→OkS l.length (mkP l)
 |0,l,h,_=>by cases l with|nil=>exact zgX _|cons _ _=>simp at h
 |n+1,l,h,hg=>by
  obtain ⟨m,p,rfl⟩:∃m p,l=m++ [p]:=⟨l.dropLast,l.getLast (by intro h0;rw[h0] at h;simp at h),(List.dropLast_concat_getLast _).symm⟩
  have:=zeW n m (by simpa using h) fun q hq=>hg q (by simp [hq])
  rw[zdP,List.length_append]
  exact PS.ins_ok p this (hg p (by simp))
def SK.cs:SK→List (List D)
 | .nil=>[]
 | .cons c _ r=>c::r.cs
def SK.ts:SK→List ST
 | .nil=>[]
 | .cons _ s r=>s::r.ts
abbrev ptB (b:Nat):D:=.v (.pointer (some ⟨b,0,none⟩))
theorem zdf:∀(k:SK) (bs:List Nat),zaP k bs=List.zipWith (fun c b=>c++ [ptB b]) k.cs bs
 | .nil,bs=>by cases bs<;>simp [zaP,SK.cs]
 | .cons c s r,[]=>by simp [zaP,SK.cs]
 | .cons c s r,b::bs=>by simp [zaP,SK.cs,zdf r bs]
theorem zfT:∀k:PK,(skP k).cs=k.es.map eD
 | .nil=>by simp only [skP,SK.cs,PK.es,List.map_nil]
 | .cons e s r=>by simp only [skP,SK.cs,PK.es,List.map_cons,zfT r]
theorem zej:∀k:PK,(skP k).ts=k.ss.map stP
 | .nil=>by simp only [skP,SK.ts,PK.ss,List.map_nil]
 | .cons e s r=>by simp only [skP,SK.ts,PK.ss,List.map_cons,zej r]
section
variable {P:Program} {S S':Nat→Prop} {w w':World}
def Kids (P:Program)(S:Nat→Prop)(w:World)(ts:List ST)(bs:List Nat)(FS:List (List Nat)):Prop:=
 bs.length=ts.length∧FS.length=ts.length∧∀(i:Nat) (t:ST) (b:Nat) (F:List Nat),ts[i]? =some t→bs[i]? =some b→FS[i]? =some F→HasS P S w t b F
theorem zeX:∀(k:SK) (bs G:List Nat),HasK P S w k bs G↔∃FS:List (List Nat),Kids P S w k.ts bs FS∧G=FS.flatten
 | .nil,bs,G=>by
  simp only [HasK,SK.ts,Kids]
  constructor
  ·rintro ⟨rfl,rfl⟩;exact ⟨[],⟨rfl,rfl,fun i t b F h=>by simp at h⟩,rfl⟩
  ·rintro ⟨FS,⟨h1,h2,_⟩,rfl⟩
   have e1:bs= []:=List.eq_nil_of_length_eq_zero h1
   have e2:FS= []:=List.eq_nil_of_length_eq_zero h2
   subst e1;subst e2;exact ⟨rfl,rfl⟩
 | .cons c s r,bs,G=>by
  simp only [HasK,SK.ts]
  constructor
  ·rintro ⟨b,bs',F1,F2,rfl,h1,h2,rfl⟩
   obtain ⟨FS,⟨h3,h4,h5⟩,rfl⟩:=(zeX r bs' F2).1 h2
   refine ⟨F1::FS,⟨by simp [h3],by simp [h4],fun i t b' F ht hb hF=>?_⟩,by simp⟩
   cases i with
   |zero=>simp at ht hb hF;subst ht;subst hb;subst hF;exact h1
   |succ i=>simp at ht hb hF;exact h5 i t b' F ht hb hF
  ·rintro ⟨FS,⟨h3,h4,h5⟩,rfl⟩
   match bs,FS,h3,h4 with
   |b::bs,F::FS,h3,h4=>
    refine ⟨b,bs,F,FS.flatten,rfl,h5 0 s b F rfl rfl rfl,(zeX r bs _).2 ⟨FS,⟨by simpa using h3,by simpa using h4,fun i t b' F' ht hb hF=>h5 (i+1) t b' F' (by simpa using ht) (by simpa using hb) (by simpa using hF)⟩,rfl⟩,by simp⟩
mutual
theorem HasS.blocks:∀(t:ST) {b:Nat} {F:List Nat},HasS P S w t b F→∀x∈F,x<w.heap.size
 | .mk tP tN ms ks,b,F,h=>by
  simp only [HasS] at h
  obtain ⟨vm,vc,T,bs,G,h1,h2,h3,h4,rfl,_⟩:=h
  intro x hx
  simp only [List.mem_cons,List.mem_append,Option.mem_toList] at hx
  rcases hx with rfl|hx|hx|hx
  ·exact (Array.getElem?_eq_some_iff.1 h1).1
  ·exact h2.row_lt hx
  ·exact h3.row_lt hx
  ·exact HasK.blocks ks h4 x hx
theorem HasK.blocks:∀(ks:SK) {bs G:List Nat},HasK P S w ks bs G→∀x∈G,x<w.heap.size
 | .nil,bs,G,h=>by
  simp only [HasK] at h
  obtain ⟨rfl,rfl⟩:=h
  intro x hx;cases hx
 | .cons c s r,bs,G,h=>by
  simp only [HasK] at h
  obtain ⟨b,bs',F1,F2,rfl,h2,h3,rfl⟩:=h
  intro x hx
  rcases List.mem_append.1 hx with hx|hx
  ·exact HasS.blocks s h2 x hx
  ·exact HasK.blocks r h3 x hx
end
theorem HasS.nodup:∀(t:ST) {b:Nat} {F:List Nat},HasS P S w t b F→F.Nodup
 | .mk tP tN ms ks,b,F,h=>by
  simp only [HasS] at h
  obtain ⟨vm,vc,T,bs,G,h1,h2,h3,h4,rfl,h5,_⟩:=h
  exact h5
theorem Kids.frame {ts:List ST}{bs:List Nat}{FS:List (List Nat)}(h:Kids P S w ts bs FS)(e:Same S w w')(hF:∀x∈FS.flatten,w'.heap[x]? =w.heap[x]?)(hS:∀x,S x→S' x):Kids P S' w' ts bs FS:=
 ⟨h.1,h.2.1,fun i t b F ht hb hFi=>(h.2.2 i t b F ht hb hFi).frame t e (fun x hx=>hF x (List.mem_flatten.2 ⟨F,List.mem_of_getElem? hFi,hx⟩)) hS⟩
theorem Kids.set {ts:List ST}{bs:List Nat}{FS:List (List Nat)}(h:Kids P S w ts bs FS){i:Nat}{t:ST}{b:Nat}{F:List Nat}(hb:bs[i]? =some b)(ht:HasS P S w t b F):Kids P S w (ts.set i t) bs (FS.set i F):=by
 refine ⟨by simp [h.1],by simp [h.2.1],fun j t' b' F' h1 h2 h3=>?_⟩
 by_cases e:i=j
 ·subst e
  rw[hb] at h2;cases h2
  have hl:=(List.getElem?_eq_some_iff.1 hb).1
  rw[List.getElem?_set_self (by rw[←h.1];exact hl)] at h1
  rw[List.getElem?_set_self (by rw[h.2.1,←h.1];exact hl)] at h3
  cases h1;cases h3;exact ht
 ·rw[List.getElem?_set_ne e] at h1 h3
  exact h.2.2 j t' b' F' h1 h2 h3
theorem zpW {α:Type}{i:Nat}{y:α}{xs:List α}(hi:i≤xs.length)(j:Nat):(Za i y xs)[j]? =if j<i then xs[j]? else if j=i then some y else xs[j - 1]? :=by
 unfold Za
 by_cases h1:j<i
 ·rw[if_pos h1,List.getElem?_append_left (by rw[List.length_take];omega),List.getElem?_take,if_pos h1]
 ·rw[if_neg h1,List.getElem?_append_right (by rw[List.length_take];omega),List.length_take,Nat.min_eq_left hi]
  by_cases h2:j=i
  ·subst h2;simp
  ·rw[if_neg h2]
   obtain ⟨k,hk⟩:∃k,j - i=k+1:=⟨j - i - 1,by omega⟩
   rw[hk,List.getElem?_cons_succ,List.getElem?_drop]
   congr 1;omega
theorem Kids.ins {ts:List ST}{bs:List Nat}{FS:List (List Nat)}(h:Kids P S w ts bs FS){i:Nat}(hi:i≤ts.length){t:ST}{b:Nat}{F:List Nat}(ht:HasS P S w t b F):Kids P S w (Za i t ts) (Za i b bs) (Za i F FS):=by
 obtain ⟨h0,h1,h2⟩:=h
 refine ⟨by simp [zan,h0],by simp [zan,h1],fun j t' b' F' k1 k2 k3=>?_⟩
 rw[zpW (by omega)] at k1 k2 k3
 by_cases e1:j<i
 ·rw[if_pos e1] at k1 k2 k3;exact h2 j t' b' F' k1 k2 k3
 ·rw[if_neg e1] at k1 k2 k3
  by_cases e2:j=i
  ·rw[if_pos e2] at k1 k2 k3;cases k1;cases k2;cases k3;exact ht
  ·rw[if_neg e2] at k1 k2 k3;exact h2 _ t' b' F' k1 k2 k3
theorem zjs {α β γ:Type}(f:α→β→γ){i:Nat}{a:α}{b:β}{xs:List α}{ys:List β}(hl:xs.length=ys.length):List.zipWith f (Za i a xs) (Za i b ys)=Za i (f a b) (List.zipWith f xs ys):=by
 unfold Za
 rw[List.zipWith_append (by simp [hl]),List.zipWith_cons_cons,List.take_zipWith,List.drop_zipWith]
theorem zc2 {α:Type}{i:Nat}{y x:α}{xs:List α}:x∈Za i y xs↔x=y∨x∈xs:=by
 unfold Za
 rw[List.mem_append,List.mem_cons]
 constructor
 ·rintro (h|h|h)
  ·exact .inr (List.mem_of_mem_take h)
  ·exact .inl h
  ·exact .inr (List.mem_of_mem_drop h)
 ·rintro (h|h)
  ·exact .inr (.inl h)
  ·rw[←List.take_append_drop i xs] at h
   rcases List.mem_append.1 h with h|h
   ·exact .inl h
   ·exact .inr (.inr h)
theorem znO {α:Type}(i:Nat)(y:α)(xs:List α):(Za i y xs).Perm (y::xs):=by
 unfold Za
 refine List.perm_middle.trans ?_
 rw[List.take_append_drop]
theorem zpX {A:List Nat}{FS:List (List Nat)}{i:Nat}{F F':List Nat}{m:Nat}(h:(A++FS.flatten).Nodup)(hF:FS[i]? =some F)(hF':F'.Nodup)(hlt:∀x∈A++FS.flatten,x<m)(hn:∀x∈F',x∈F∨m≤x):(A++(FS.set i F').flatten).Nodup:=by
 obtain ⟨hi,rfl⟩:=List.getElem?_eq_some_iff.1 hF
 have e1:FS=FS.take i++FS[i]::FS.drop (i+1):=by rw[←List.drop_eq_getElem_cons hi,List.take_append_drop]
 have e2:FS.set i F'=FS.take i++F'::FS.drop (i+1):=List.set_eq_take_append_cons_drop.trans (if_pos hi)
 rw[e2]
 rw[e1] at h hlt
 generalize FS[i]=F at h hlt hn
 generalize FS.take i=X at h hlt ⊢
 generalize FS.drop (i+1)=Y at h hlt ⊢
 simp only [List.flatten_append,List.flatten_cons] at h hlt ⊢
 have p1:(A++(X.flatten++(F++Y.flatten))).Perm (F++(A++(X.flatten++Y.flatten))):=by
  refine (List.Perm.append_left A ((List.perm_append_comm_assoc ..))).trans ?_
  exact List.perm_append_comm_assoc ..
 have p2:(A++(X.flatten++(F'++Y.flatten))).Perm (F'++(A++(X.flatten++Y.flatten))):=by
  refine (List.Perm.append_left A ((List.perm_append_comm_assoc ..))).trans ?_
  exact List.perm_append_comm_assoc ..
 rw[p1.nodup_iff,List.nodup_append] at h
 rw[p2.nodup_iff,List.nodup_append]
 refine ⟨hF',h.2.1,fun x hx y hy e=>?_⟩
 subst e
 rcases hn x hx with hx'|hx'
 ·exact h.2.2 x hx' x hy rfl
 ·have:=hlt x (p1.mem_iff.2 (List.mem_append_right _ hy));omega
theorem zpY {A:List Nat}{FS:List (List Nat)}{i:Nat}{F':List Nat}(h:(A++FS.flatten).Nodup)(hF':F'.Nodup)(hn:∀x∈F',x∉A++FS.flatten):(A++(Za i F' FS).flatten).Nodup:=by
 have p:(A++(Za i F' FS).flatten).Perm (F'++(A++FS.flatten)):=by
  refine (List.Perm.append_left A ((znO i F' FS).flatten)).trans ?_
  rw[List.flatten_cons]
  exact List.perm_append_comm_assoc ..
 rw[p.nodup_iff,List.nodup_append]
 exact ⟨hF',h,fun x hx y hy e=>hn x hx (e▸hy)⟩
end
abbrev ndD (x:LE×D):List D:=leD x.1++ [x.2]
abbrev ndA (x:LE×D):Av:=.agg (cls (ndD x))
abbrev zvt (L:List (LE×D)):D:=.sl 233 (L.map ndD)
theorem zmE (x:LE×D):∃n0 n1 n2 n3 n4,ndD x= [n0,n1,n2,n3,n4]∧ndA x= .agg [.d n0,.d n1,.d n2,.d n3,.d n4]:=by
 obtain ⟨e,d⟩:=x
 cases e<;>exact ⟨_,_,_,_,_,rfl,rfl⟩
theorem zpZ (x:LE×D)(q:LE)(hp:zas x.1)(hq:zas q):ACalls prog 228 [ndA x,leA q] (fun r=>r=aI (zat x.1 q)):=by
 have h:=zfq x.1 q hp hq
 have four:∀e:LE,∃e0 e1 e2 e3,leD e= [e0,e1,e2,e3]∧leA e= .agg [.d e0,.d e1,.d e2,.d e3]:=fun e=>by cases e<;>exact ⟨_,_,_,_,rfl,rfl⟩
 obtain ⟨p0,p1,p2,p3,hpd,hp'⟩:=four x.1
 obtain ⟨q0,q1,q2,q3,_,hq'⟩:=four q
 have hn:ndA x= .agg [.d p0,.d p1,.d p2,.d p3,.d x.2]:=by show Av.agg (cls (leD x.1++ [x.2]))=_;rw[hpd];rfl
 rw[hp',hq'] at h
 rw[hn,hq']
 refine zg [] func228 (by kernel_rfl) rfl ntmps228 results228 (Nat.le_of_ble_eq_true (by kernel_rfl)) ?_;intro hok w0 S0
 clear hok
 (repeat' (first|(with_reducible first|refine zl (fun _=>?_) (fun _=>?_)|refine zk (fun _=>?_) (fun _=>?_)|refine zt (h) (by first|rfl|(simp -dsimp;done)) ?_|refine zm zd (by kernel_rfl) ?_|exact zc rfl)|(simp -dsimp)));(all_goals try with_reducible refine zc ?_)
theorem znP (g:FuncId)(L:List (LE×D))(e:LE)(p:Nat)(fd:Bool)(hl:L.length*40≤140737488351232)(hg:∀x∈L,ACalls prog g [ndA x,leA e] (fun r=>r=aI (zat x.1 e)))(hB:Bound (L.map (·.1)) e p)(hf:fd=true↔zpO (L.map (·.1)) e p):
  ACalls prog 203 [.c (.d (zvt L)),leA e,.c (.d (.v (.func (.func g) #[] #[])))] (fun r=>r= .tup [(false,[.d (dI p)]),(false,[.d (dB fd)])]):=by
 obtain ⟨E,hE⟩:∃E,E=leD e:=⟨_,rfl⟩
 have hEl:E.length=4:=by rw[hE];cases e<;>rfl
 obtain ⟨e0,e1,e2,e3,he⟩:∃e0 e1 e2 e3,E= [e0,e1,e2,e3]:=by
  match E,hEl with
  | [a,b,c,d],_=>exact ⟨a,b,c,d,rfl⟩
 have eA:leA e= .agg [.d e0,.d e1,.d e2,.d e3]:=by
  show Av.agg (cls (leD e))=_
  rw[←hE,he];rfl
 rw[eA] at hg ⊢
 clear hE hEl
 have hBlo:∀(j:Nat) (h:j<L.length),j<p→zat L[j].1 e<0:=fun j h k=>by have:=hB.lo j (by simpa using h) k;simpa using this
 have hBhi:∀(j:Nat) (h:j<L.length),p≤j→0≤zat L[j].1 e:=fun j h k=>by have:=hB.hi j (by simpa using h) k;simpa using this
 have hBle:p≤L.length:=by simpa using hB.le
 have b1:L.length≤9223372036854775807:=by omega
 refine zg [(5,([6],[(0,[]),(1,[]),(2,[]),(3,[]),(4,[]),(5,[]),(6,[]),(7,[])])),(8,([],[(0,[]),(1,[]),(2,[]),(3,[]),(4,[]),(5,[]),(6,[]),(7,[]),(8,[]),(9,[]),(10,[]),(11,[]),(12,[]),(13,[]),(14,[]),(15,[])]))] func203 (by kernel_rfl) rfl ntmps203 results203 (Nat.le_of_ble_eq_true (by kernel_rfl)) ?_;intro hok w0 S0
 clear hok
 (repeat' (first|(with_reducible first|refine zl (fun _=>?_) (fun _=>?_)|refine zk (fun _=>?_) (fun _=>?_)|refine zm zd (by kernel_rfl) ?_|exact zc rfl)|(simp -dsimp [b1])));(all_goals try with_reducible refine zc ?_)
 refine zJ (fun x:Nat×Nat=>⟨[(0,.c (.d (zvt L))),(2,.c (.d (.v (.func (.func g) #[] #[])))),(4,.c (.own 4 0)),(8,aI L.length),(9,aI x.1),(10,aI x.2)],[(4,.cells [.d e0,.d e1,.d e2,.d e3] 101)]⟩) (fun x=>x.1≤p∧p≤x.2∧x.2≤L.length) (fun x=>x.2 - x.1) (0,L.length) ?_ ⟨Nat.zero_le _,hBle,Nat.le_refl _⟩ ?_
 ·exact Weak.same (by simp -dsimp) (by simp -dsimp) (by first|rfl|(simp [zj,Av.ids,Ow.ids,Cl.ids,Go.Smd.keys];done))
 ·rintro ⟨lo,hi⟩ ⟨h1,h2,h3⟩ K hK
  dsimp only at h1 h2 h3 ⊢
  by_cases hlt:lo<hi
  ·obtain ⟨m,hm⟩:∃m,m=(lo+hi) / 2:=⟨_,rfl⟩
   have hml:m<L.length:=by omega
   obtain ⟨s,hs⟩:∃s:Nat,(lo:Int)+(hi:Int)=(s:Int):=⟨lo+hi,by omega⟩
   have c1:=zoB (n:=s) (by omega)
   have c2:=zoC (n:=m) (by omega)
   have c3:∀{T:TypeId} {ox oy:Operand},Z0 prog .shr T ox oy (.c (.d (.v (.int .u64 (s:Int))))) (.c (.d (.v (.int .u64 1))))=some (.c (.d (.v (.int .u64 (m:Int))))):=by
    have e:m=s / 2:=by omega
    intro T ox oy;rw[e];exact zuo (n:=s) (by omega)
   have hw:IntKind.wrap .i64 (s:Int)=(s:Int):=by rw[zy]<;>omega
   have hw2:IntKind.wrap .i64 ((m:Int)+1)=((m+1:Nat):Int):=by rw[zy]<;>omega
   have hx:=hg _ (List.getElem_mem hml)
   obtain ⟨n0,n1,n2,n3,n4,hn,hn'⟩:=zmE L[m]
   rw[hn'] at hx
   by_cases hc:zat L[m].1 e<0
   ·(repeat' (first|(with_reducible first|refine zl (fun _=>?_) (fun _=>?_)|refine zk (fun _=>?_) (fun _=>?_)|refine zt (hx) (by first|rfl|(simp -dsimp [b1,hlt,hs,c1,c2,c3,hw,hw2,hml,hc,hn];done)) ?_|(refine Zu (hx) rfl ?_ ?_ ?_;iterate 2 exact by first|rfl|(simp -dsimp [b1,hlt,hs,c1,c2,c3,hw,hw2,hml,hc,hn];done))|refine zm zd (by kernel_rfl) ?_|exact zc rfl)|(simp -dsimp [b1,hlt,hs,c1,c2,c3,hw,hw2,hml,hc,hn])));(all_goals try with_reducible refine zc ?_)
    refine hK _ (m+1,hi) ?_ ⟨?_,h2,h3⟩ (by dsimp only;omega)
    ·exact Weak.same (by simp -dsimp) (by simp -dsimp) (by first|rfl|(simp [zj,Av.ids,Ow.ids,Cl.ids,Go.Smd.keys];done))
    ·dsimp only
     apply Classical.byContradiction
     intro hn
     have:=hBhi m hml (by omega);omega
   ·(repeat' (first|(with_reducible first|refine zl (fun _=>?_) (fun _=>?_)|refine zk (fun _=>?_) (fun _=>?_)|refine zt (hx) (by first|rfl|(simp -dsimp [b1,hlt,hs,c1,c2,c3,hw,hw2,hml,hc,hn];done)) ?_|(refine Zu (hx) rfl ?_ ?_ ?_;iterate 2 exact by first|rfl|(simp -dsimp [b1,hlt,hs,c1,c2,c3,hw,hw2,hml,hc,hn];done))|refine zm zd (by kernel_rfl) ?_|exact zc rfl)|(simp -dsimp [b1,hlt,hs,c1,c2,c3,hw,hw2,hml,hc,hn])));(all_goals try with_reducible refine zc ?_)
    refine hK _ (lo,m) ?_ ⟨h1,?_,by dsimp only;omega⟩ (by dsimp only;omega)
    ·exact Weak.same (by simp -dsimp) (by simp -dsimp) (by first|rfl|(simp [zj,Av.ids,Ow.ids,Cl.ids,Go.Smd.keys];done))
    ·dsimp only
     apply Classical.byContradiction
     intro hn
     exact hc (hBlo m hml (by omega))
  ·have e1:lo=p:=by omega
   have e2:hi=p:=by omega
   subst e1;subst e2
   by_cases hpl:hi<L.length
   ·have hx:=hg _ (List.getElem_mem hpl)
    obtain ⟨n0,n1,n2,n3,n4,hn,hn'⟩:=zmE L[hi]
    rw[hn'] at hx
    have hf2:fd=decide (zat L[hi].1 e=0):=by
     rw[Bool.eq_iff_iff,hf,decide_eq_true_eq]
     exact ⟨fun ⟨x,h5,h6⟩=>(by rw[List.getElem?_map,List.getElem?_eq_getElem hpl] at h5;cases h5;exact h6),fun h5=>⟨_,by rw[List.getElem?_map,List.getElem?_eq_getElem hpl];rfl,h5⟩⟩
    by_cases hc:zat L[hi].1 e=0
    ·(repeat' (first|(with_reducible first|refine zl (fun _=>?_) (fun _=>?_)|refine zk (fun _=>?_) (fun _=>?_)|refine zt (hx) (by first|rfl|(simp -dsimp [b1,hlt,hpl,hc,hn];done)) ?_|(refine Zu (hx) rfl ?_ ?_ ?_;iterate 2 exact by first|rfl|(simp -dsimp [b1,hlt,hpl,hc,hn];done))|refine zm zd (by kernel_rfl) ?_|exact zc rfl)|(simp -dsimp [b1,hlt,hpl,hc,hn])));(all_goals try with_reducible refine zc ?_)
     rw[hf2];simp [hc]
    ·(repeat' (first|(with_reducible first|refine zl (fun _=>?_) (fun _=>?_)|refine zk (fun _=>?_) (fun _=>?_)|refine zt (hx) (by first|rfl|(simp -dsimp [b1,hlt,hpl,hc,hn];done)) ?_|(refine Zu (hx) rfl ?_ ?_ ?_;iterate 2 exact by first|rfl|(simp -dsimp [b1,hlt,hpl,hc,hn];done))|refine zm zd (by kernel_rfl) ?_|exact zc rfl)|(simp -dsimp [b1,hlt,hpl,hc,hn])));(all_goals try with_reducible refine zc ?_)
     rw[hf2];simp [hc]
   ·have hf2:fd=false:=by
     rw[Bool.eq_false_iff]
     intro h5
     obtain ⟨x,h6,_⟩:=hf.1 h5
     have:=(List.getElem?_eq_some_iff.1 h6).1
     rw[List.length_map] at this
     omega
    (repeat' (first|(with_reducible first|refine zl (fun _=>?_) (fun _=>?_)|refine zk (fun _=>?_) (fun _=>?_)|refine zm zd (by kernel_rfl) ?_|exact zc rfl)|(simp -dsimp [b1,hlt,hpl])));(all_goals try with_reducible refine zc ?_)
    rw[hf2]
theorem znQ (T:TypeId)(ver u:Nat)(R:List (List D))(L:List LE)(e:LE)(p:Nat)(hl:L.length*32≤140737488351232)(hL:∀x∈L,zas x)(he:zas e)(hB:Bound L e p)(hf:zpO L e p):
  AProc prog 171 [.c (.own 1000000000 0),leA e] [(1000000000,.cells [.gs 1000000001 ver,.gs 1000000002 u] T),(1000000001,.arr ver 101 (L.map leD)),(1000000002,.arr u tSN R)]
   (fun r own'=>r= .tup []∧own'= [(3,.cells (cls (leD e)) 101),(1000000000,.cells [.gs 1000000001 ver,.gs 1000000002 u] T),(1000000001,.arr ver 101 (L.map leD)),(1000000002,.arr u tSN R)]):=by
 have hb:=zkp 207 L e p true hl (fun x hx=>zmy x e (hL x hx) he) hB (by simp [hf])
 have four:∀e:LE,∃e0 e1 e2 e3,leA e= .agg [.d e0,.d e1,.d e2,.d e3]:=fun e=>by cases e<;>exact ⟨_,_,_,_,rfl⟩
 obtain ⟨e0,e1,e2,e3,he'⟩:=four e
 have hcl:cls (leD e)= [.d e0,.d e1,.d e2,.d e3]:=Av.agg.inj he'
 rw[he'] at hb ⊢
 rw[hcl]
 refine zap [] func171 (by kernel_rfl) rfl ntmps171 results171 (Nat.le_of_ble_eq_true (by kernel_rfl)) ?_;intro hok w0 S0
 (repeat' (first|(with_reducible first|refine zl (fun _=>?_) (fun _=>?_)|refine zk (fun _=>?_) (fun _=>?_)|refine zm zd (by kernel_rfl) ?_|exact zc rfl)|(simp -dsimp)));(all_goals try with_reducible refine zc ?_)
 refine zdH ?_
 refine zd9 zd [0,1,2,3,4,5,6,7,8,9,10] [(7,?m7),(8,?m8),(9,?m9),(10,?m10),(11,?m11),(12,?m12),(6,?m6),(13,?m13),(14,?m14),(4,?m4),(5,?m5)] [(5,?o5)] ?hok ?hst ?hk
 case' hst=>refine ⟨?hv0,⟨_,rfl,?he0⟩,?hv1⟩
 case hv0=>
  iterate 5 refine ⟨.inr ⟨_,_,rfl,rfl,by simp -dsimp [zi]<;>with_reducible rfl⟩,?_⟩
  iterate 6 refine ⟨.inl (by kernel_rfl),?_⟩
  exact trivial
 case' he0=>(with_reducible apply zrw (d:=12) (hR:=hb));(case hp=>rfl);(case hd=>rfl);(case hdk=>rfl);(case hc=>simp -dsimp [zi]<;>(first|done|rfl|exact ⟨rfl,rfl⟩|exact ⟨rfl,rfl,rfl⟩));(case ha=>simp -dsimp [zi]);(case hpl=>rfl);(case hoo=>rfl);(case hv=>simp -dsimp [zi]<;>with_reducible rfl)
 case hv1=>
  iterate 6 refine ⟨.inl (by kernel_rfl),?_⟩
  iterate 5 refine ⟨.inr ⟨_,_,rfl,rfl,by simp -dsimp [zi]<;>with_reducible rfl⟩,?_⟩
  exact trivial
 case hok=>kernel_rfl
 refine ⟨rfl,?_⟩
 (repeat' (first|(with_reducible first|refine zl (fun _=>?_) (fun _=>?_)|refine zk (fun _=>?_) (fun _=>?_)|refine zm zd (by kernel_rfl) ?_|exact zc rfl)|(simp -dsimp)));(all_goals try with_reducible refine zc ?_)
 exact ⟨rfl,rfl⟩
theorem znR (T:TypeId)(ver u:Nat)(R:List (List D))(L:List LE)(e:LE)(p:Nat)(hl:(L.length+1)*32≤140737488351232)(hL:∀x∈L,zas x)(he:zas e)(hB:Bound L e p)(hf:¬zpO L e p):
  AProc prog 171 [.c (.own 1000000000 0),leA e] [(1000000000,.cells [.gs 1000000001 ver,.gs 1000000002 u] T),(1000000001,.arr ver 101 (L.map leD)),(1000000002,.arr u tSN R)]
   (fun r own'=>r= .tup []∧own'= [(3,.cells (cls (leD e)) 101),(23,.arr 0 101 [leD e]),(1000000000,.cells [.gs 1000000001 (ver+1),.gs 1000000002 u] T),(1000000001,.arr (ver+1) 101 ((Za p e L).map leD)),(1000000002,.arr u tSN R)]):=by
 have hb:=zkp 207 L e p false (by omega) (fun x hx=>zmy x e (hL x hx) he) hB (by simp [hf])
 have four:∀e:LE,∃e0 e1 e2 e3,leA e= .agg [.d e0,.d e1,.d e2,.d e3]:=fun e=>by cases e<;>exact ⟨_,_,_,_,rfl⟩
 obtain ⟨e0,e1,e2,e3,he'⟩:=four e
 have hcl:cls (leD e)= [.d e0,.d e1,.d e2,.d e3]:=Av.agg.inj he'
 have hld:leD e= [e0,e1,e2,e3]:=(List.map_inj_right (f:=Cl.d) (fun a b h=>Cl.d.inj h)).1 (show List.map Cl.d (leD e)=List.map Cl.d [e0,e1,e2,e3] from hcl)
 have hins:(Za p e L).map leD=Za p [e0,e1,e2,e3] (L.map leD):=by unfold Za;simp [List.map_take,List.map_drop,hld]
 have hi:=zrU ver 0 p (L.map leD) [e0,e1,e2,e3] (by simpa using hB.le) (by simpa using hl)
 rw[he'] at hb ⊢
 rw[hcl,hld,hins]
 refine zap [] func171 (by kernel_rfl) rfl ntmps171 results171 (Nat.le_of_ble_eq_true (by kernel_rfl)) ?_;intro hok w0 S0
 (repeat' (first|(with_reducible first|refine zl (fun _=>?_) (fun _=>?_)|refine zk (fun _=>?_) (fun _=>?_)|refine zm zd (by kernel_rfl) ?_|exact zc rfl)|(simp -dsimp)));(all_goals try with_reducible refine zc ?_)
 refine zdH ?_
 refine zd9 zd [0,1,2,3,4,5,6,7,8,9,10] [(7,?m7),(8,?m8),(9,?m9),(10,?m10),(11,?m11),(12,?m12),(6,?m6),(13,?m13),(14,?m14),(4,?m4),(5,?m5)] [(5,?o5)] ?hok ?hst ?hk
 case' hst=>refine ⟨?hv0,⟨_,rfl,?he0⟩,?hv1⟩
 case hv0=>
  iterate 5 refine ⟨.inr ⟨_,_,rfl,rfl,by simp -dsimp [zi]<;>with_reducible rfl⟩,?_⟩
  iterate 6 refine ⟨.inl (by kernel_rfl),?_⟩
  exact trivial
 case' he0=>(with_reducible apply zrw (d:=12) (hR:=hb));(case hp=>rfl);(case hd=>rfl);(case hdk=>rfl);(case hc=>simp -dsimp [zi]<;>(first|done|rfl|exact ⟨rfl,rfl⟩|exact ⟨rfl,rfl,rfl⟩));(case ha=>simp -dsimp [zi]);(case hpl=>rfl);(case hoo=>rfl);(case hv=>simp -dsimp [zi]<;>with_reducible rfl)
 case hv1=>
  iterate 6 refine ⟨.inl (by kernel_rfl),?_⟩
  iterate 5 refine ⟨.inr ⟨_,_,rfl,rfl,by simp -dsimp [zi]<;>with_reducible rfl⟩,?_⟩
  exact trivial
 case hok=>kernel_rfl
 refine ⟨rfl,?_⟩
 (repeat' (first|(with_reducible first|refine zl (fun _=>?_) (fun _=>?_)|refine zk (fun _=>?_) (fun _=>?_)|refine zm zd (by kernel_rfl) ?_|exact zc rfl)|(simp -dsimp)));(all_goals try with_reducible refine zc ?_)
 refine zdH ?_
 refine zaF zd [[],[],[1],[1,2],[1,2,3],[],[],[6],[1,2,3,4,5,6,7],[0,1,2,3,4,5,6,7,8],[0,1,2,3,4,5,6,7,8,9],[0,1,2,3,4,5,6,7,8,9,10]] [0,1,2,3,4,5,6,7,8,9,10,11] [7,8,11] [([],⟨[(16,?m16u1),(17,?m17u1),(18,?m18u1),(19,?m19u1),(20,?m20u1),(21,?m21u1),(22,?m22u1),(23,?m23u1),(24,?m24u1),(25,?m25u1),(26,?m26u1)],?bu1,?o0u1⟩),([7],⟨[(16,?m16u1),(17,?m17u1),(18,?m18u1),(19,?m19u1),(20,?m20u1),(21,?m21u1),(22,?m22u1),(23,?m23u1),(24,?m24u1),(25,?m25u1),(26,?m26u1)],?bu1,?o1u1⟩),([7,8],⟨[(16,?m16u1),(17,?m17u1),(18,?m18u1),(19,?m19u1),(20,?m20u1),(21,?m21u1),(22,?m22u1),(23,?m23u1),(24,?m24u1),(25,?m25u1),(26,?m26u1)],?bu1,?o2u1⟩),([7,8,11],⟨[(16,?m16u1),(17,?m17u1),(18,?m18u1),(19,?m19u1),(20,?m20u1),(21,?m21u1),(22,?m22u1),(23,?m23u1),(24,?m24u1),(25,?m25u1),(26,?m26u1)],?bu1,?o3u1⟩)] ?hoku1 rfl rfl ?hbu1 ?hou1 ?hstu1 ?hku1
 case' hbu1=>rfl
 case' hou1=>rfl
 case' hstu1=>refine ⟨⟨?v0u1,?s0u1⟩,⟨⟨?v1u1,?s1u1⟩,⟨⟨?v2u1,?s2u1⟩,⟨⟨?v3u1,?s3u1⟩,True.intro⟩⟩⟩⟩
 case v0u1=>
  iterate 7 refine ⟨.inr ⟨_,rfl,zA (ZZ rfl rfl (by simp -dsimp [zi,zf]<;>with_reducible rfl))⟩,?_⟩
  iterate 5 refine ⟨.inl (by kernel_rfl),?_⟩
  exact True.intro
 case s0u1=>
  refine ⟨.inr ⟨_,_,rfl,rfl,Zv (zdI (hdk:=rfl) (hW:=rfl) (hq:=by simp -dsimp [zi,zf]<;>(first|done|rfl|exact ⟨rfl,rfl⟩|exact ⟨rfl,rfl,rfl⟩)) (hoo:=rfl) (hv:=by simp -dsimp [zi,zf]<;>with_reducible rfl)) (by simp -dsimp [zi,ZK,zbQ,zf]<;>with_reducible rfl)⟩,?_⟩
  iterate 2 refine ⟨.inl (by kernel_rfl),?_⟩
  exact True.intro
 case v1u1=>
  iterate 6 refine ⟨.inr ⟨_,rfl,zA (ZZ rfl rfl (by simp -dsimp [zi,zf]<;>with_reducible rfl))⟩,?_⟩
  iterate 6 refine ⟨.inl (by kernel_rfl),?_⟩
  exact True.intro
 case' s1u1=>
  refine ⟨.inl (by kernel_rfl),?_⟩
  refine ⟨.inr ⟨_,_,rfl,rfl,Zv (zol (d:=24) (ρ:=[(1000000000,1000000001),(1000000001,23)]) (t:=8) (hR:=hi) (hp:=rfl) (hd:=rfl) (hdk:=rfl) (hc:=by simp -dsimp [zi,zf]<;>(first|done|rfl|exact ⟨rfl,rfl⟩|exact ⟨rfl,rfl,rfl⟩)) (hx:=by simp -dsimp [zi,zf]<;>with_reducible rfl) (ho:=by simp -dsimp [zi,zf]) (hh:=by simp -dsimp [zi,zf]) (hb:=by simp -dsimp [zi,zf]) (h1:=by simp -dsimp [zi,zf]<;>with_reducible rfl) (hv:=by simp -dsimp [zi,zf]<;>with_reducible rfl) (hfix:= ?hf8k1u1)) (by simp -dsimp [zi,ZK,zbQ,zf]<;>with_reducible rfl)⟩,?_⟩
  rotate_left
  refine ⟨.inl (by kernel_rfl),?_⟩
  exact True.intro
 case v2u1=>
  refine ⟨.inr ⟨_,rfl,zA (ZZ rfl rfl (by simp -dsimp [zi,zf]<;>with_reducible rfl))⟩,?_⟩
  iterate 8 refine ⟨.inl (by kernel_rfl),?_⟩
  iterate 2 refine ⟨.inr ⟨_,rfl,zA (ZZ rfl rfl (by simp -dsimp [zi,zf]<;>with_reducible rfl))⟩,?_⟩
  refine ⟨.inl (by kernel_rfl),?_⟩
  exact True.intro
 case s2u1=>
  iterate 2 refine ⟨.inl (by kernel_rfl),?_⟩
  refine ⟨.inr ⟨_,_,rfl,rfl,Zv (zdI (hdk:=rfl) (hW:=rfl) (hq:=by simp -dsimp [zi,zf]<;>(first|done|rfl|exact ⟨rfl,rfl⟩|exact ⟨rfl,rfl,rfl⟩)) (hoo:=rfl) (hv:=by simp -dsimp [zi,zf]<;>with_reducible rfl)) (by simp -dsimp [zi,ZK,zbQ,zf]<;>with_reducible rfl)⟩,?_⟩
  exact True.intro
 case v3u1=>
  iterate 12 refine ⟨.inl (by kernel_rfl),?_⟩
  exact True.intro
 case s3u1=>
  iterate 3 refine ⟨.inl (by kernel_rfl),?_⟩
  exact True.intro
 case s1u1=>simp -dsimp [zi,zf]
 case hoku1=>kernel_rfl
 refine ⟨rfl,?_⟩
 (repeat' (first|(with_reducible first|refine zl (fun _=>?_) (fun _=>?_)|refine zk (fun _=>?_) (fun _=>?_)|refine zm zd (by kernel_rfl) ?_|exact zc rfl)|(simp -dsimp)));(all_goals try with_reducible refine zc ?_)
 exact ⟨rfl,rfl⟩
end Go.Smd
end
