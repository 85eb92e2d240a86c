/- Part 34. -/
import Derived.Test.YtdgnolbdcmgfoaaGreatQD32
import Derived.Test.YtdgnolbdcmgfoaaGreatQD33
import Derived.Test.YtdgnolbdcmgfoaaGreatQD01
import Derived.Deep.Slices
import Derived.ProofKit
import Derived.Test.YtdgnolbdcmgfoaaGreatRows
import Derived.Test.YtdgnolbdcmgfoaaGreatQD20
import Derived.Test.YtdgnolbdcmgfoaaGreatQD21
set_option linter.unusedVariables false
set_option linter.unusedSimpArgs false
set_option maxRecDepth 100000
set_option maxHeartbeats 8000000
section
namespace Go.Smd
open Go.RowKit Go.Proofs Go.Proofs.Tryz
section
variable {α:Type} {O:α→Prop} {c:α→α→Int}
def lbG (c:α→α→Int)(e:α):List α→Nat
 | []=>0
 |x::r=>if c x e<0 then lbG c e r+1 else 0
theorem znK (e:α):∀S:List α,lbG c e S≤S.length
 | []=>Nat.le_refl _
 |x::r=>by
  have:=znK e r
  simp only [lbG]
  split<;>simp<;>omega
theorem zlj (e:α):∀(S:List α) (j:Nat) (h:j<S.length),j<lbG c e S→c S[j] e<0
 | [],j,h,_=>by simp at h
 |x::r,j,h,k=>by
  simp only [lbG] at k
  split at k
  ·next hx=>
   cases j with
   |zero=>exact hx
   |succ j=>exact zlj e r j (by simpa using h) (by omega)
  ·omega
theorem zlk (hO:Ord3 O c){e:α}(he:O e):∀(S:List α),(∀x∈S,O x)→S.Pairwise (fun x y=>c x y<0)→∀(j:Nat) (h:j<S.length),lbG c e S≤j→0≤c S[j] e
 | [],_,_,j,h,_=>by simp at h
 |x::r,ho,hs,j,h,k=>by
  have hs:=List.pairwise_cons.1 hs
  simp only [lbG] at k
  split at k
  ·next hx=>
   cases j with
   |zero=>omega
   |succ j=>exact zlk hO he r (fun y hy=>ho y (by simp [hy])) hs.2 j (by simpa using h) (by omega)
  ·next hx=>
   cases j with
   |zero=>show 0≤c x e;omega
   |succ j=>
    have hj:j<r.length:=by simpa using h
    have h1:=hs.1 _ (List.getElem_mem hj)
    show 0≤c r[j] e
    apply Classical.byContradiction
    intro hn
    exact hx (hO.lt_le (ho x (by simp)) (ho _ (by simp [List.getElem_mem hj])) he h1 (by omega))
theorem ztU (hO:Ord3 O c){e:α}(he:O e){S:List α}(ho:∀x∈S,O x)(hs:S.Pairwise fun x y=>c x y<0):(∃x,S[lbG c e S]? =some x∧c x e=0)↔∃x∈S,c x e=0:=by
 constructor
 ·rintro ⟨x,h,h0⟩;exact ⟨x,List.mem_of_getElem? h,h0⟩
 ·rintro ⟨x,hx,h0⟩
  obtain ⟨j,hj,rfl⟩:=List.getElem_of_mem hx
  have hlo:lbG c e S≤j:=Nat.le_of_not_lt fun h=>by have:=zlj e S j hj h;omega
  refine ⟨S[lbG c e S],List.getElem?_eq_getElem (by omega),?_⟩
  have h1:=zlk hO he S ho hs (lbG c e S) (by omega) (Nat.le_refl _)
  rcases Nat.lt_or_eq_of_le hlo with h|h
  ·have h2:=List.pairwise_iff_getElem.1 hs (lbG c e S) j (by omega) hj h
   have:=hO.lt_le (ho _ (List.getElem_mem _)) (ho _ (List.getElem_mem hj)) he h2 (by omega)
   omega
  ·simp only [h];exact h0
theorem zpN (hO:Ord3 O c){e:α}(he:O e){S:List α}(ho:∀x∈S,O x)(hs:S.Pairwise fun x y=>c x y<0)(hn:¬∃x∈S,c x e=0):(zS (lbG c e S) e S).Pairwise fun x y=>c x y<0:=by
 unfold zS
 have hsp:S=S.take (lbG c e S)++S.drop (lbG c e S):=(List.take_append_drop _ _).symm
 have h1:∀x∈S.take (lbG c e S),c x e<0:=fun x hx=>by
  obtain ⟨j,hj,rfl⟩:=List.getElem_of_mem hx
  rw[List.length_take] at hj
  rw[List.getElem_take]
  exact zlj e S j (by omega) (by omega)
 have h2:∀x∈S.drop (lbG c e S),c e x<0:=fun x hx=>by
  have hxS:=List.mem_of_mem_drop hx
  obtain ⟨j,hj,rfl⟩:=List.getElem_of_mem hx
  rw[List.length_drop] at hj
  have k:=zlk hO he S ho hs (lbG c e S+j) (by omega) (by omega)
  rw[List.getElem_drop] at hxS ⊢
  have a:=hO.anti S[lbG c e S+j] e (ho _ hxS) he
  have:c S[lbG c e S+j] e≠0:=fun h=>hn ⟨_,hxS,h⟩
  omega
 rw[hsp,List.pairwise_append] at hs
 rw[List.pairwise_append,List.pairwise_cons]
 refine ⟨hs.1,⟨h2,hs.2.1⟩,fun x hx y hy=>?_⟩
 rcases List.mem_cons.1 hy with rfl|hy
 ·exact h1 x hx
 ·exact hs.2.2 x hx y hy
end
def zgH (W:List (List EV))(q:List EV):Bool:=W.any fun w=>decide (zbq w q=0)
theorem zdM {W:List (List EV)}{q:List EV}:zgH W q=true↔∃w∈W,zbq w q=0:=by simp [zgH]
def zfy (p:List EV)(W:List (List EV)):List (List EV):=if p.isEmpty=true then W else if zgH W p=true then W else zS (lbG zbq p W) p W
def mkW (l:List (List EV)):List (List EV):=l.foldl (fun W p=>zfy p W) []
@[simp] theorem zxP:mkW []= []:=rfl
theorem zf4 (l:List (List EV))(p:List EV):mkW (l++ [p])=zfy p (mkW l):=by simp [mkW]
structure OkW (W:List (List EV)):Prop where
 good:∀w∈W,∀e∈w,GoodE e
 ne:∀w∈W,w≠ []
 sort:W.Pairwise fun x y=>zbq x y<0
theorem OkW.oe {W:List (List EV)}(h:OkW W):∀w∈W,zli w:=fun w hw e he=>(h.good w hw e he).o
theorem ztV {p:List EV}{W:List (List EV)}(hp:∀e∈p,GoodE e)(h:OkW W):OkW (zfy p W):=by
 unfold zfy
 split
 ·exact h
 ·next hne=>
  split
  ·exact h
  ·next hn=>
   refine ⟨fun w hw=>?_,fun w hw=>?_,zpN zdL (fun e he=>(hp e he).o) h.oe h.sort fun hx=>hn (zdM.2 hx)⟩
   ·rcases zci.1 hw with rfl|hw
    ·exact hp
    ·exact h.good w hw
   ·rcases zci.1 hw with rfl|hw
    ·intro e;exact hne (by rw[e];rfl)
    ·exact h.ne w hw
theorem zr6 {p:List EV}{W:List (List EV)}(hne:p≠ []):(zfy p W).length=W.length+if zgH W p=true then 0 else 1:=by
 unfold zfy
 rw[if_neg (by simpa using hne)]
 split<;>simp [ZV]
theorem zr7 {p q:List EV}{W:List (List EV)}(hp:zli p)(hq:zli q)(hne:p≠ [])(h:OkW W):zgH (zfy p W) q=true↔zbq p q=0∨zgH W q=true:=by
 unfold zfy
 rw[if_neg (by simpa using hne)]
 split
 ·next hw=>
  constructor
  ·exact .inr
  ·rintro (h0|h0)
   ·obtain ⟨w,hw,h1⟩:=zdM.1 hw
    exact zdM.2 ⟨w,hw,zdL.eq_trans (h.oe w hw) hp hq h1 h0⟩
   ·exact h0
 ·simp only [zdM,zci]
  constructor
  ·rintro ⟨w,rfl|hw,h0⟩
   ·exact .inl h0
   ·exact .inr ⟨w,hw,h0⟩
  ·rintro (h0|⟨w,hw,h0⟩)
   ·exact ⟨p,.inl rfl,h0⟩
   ·exact ⟨w,.inr hw,h0⟩
def PS.has:PS→List EV→Bool
 |_,[]=>false
 | .mk ms _,[e]=>ms.any fun x=>decide (zw x e=0)
 | .mk _ ks,e::f::p=>(ZW e ks).has (f::p)
theorem zg7 {e e':EV}(he:OE e)(he':OE e')(t:PS)(h0:zw e' e=0):∀{k:PK},(∀x∈k.es,OE x)→ZW e (zbA e' t k)=t
 | .nil,_=>by simp only [zbA,ZW];rw[if_neg (by omega),if_pos h0]
 | .cons x s r,ho=>by
  have hx:OE x:=ho x (by simp [PK.es])
  have ih:=zg7 he he' t h0 (k:=r) fun y hy=>ho y (by simp [PK.es,hy])
  simp only [zbA]
  split
  ·next h1=>
   have:=zo.lt_le hx he' he h1 (by omega)
   simp only [ZW];rw[if_pos this];exact ih
  ·split
   ·next h1 h2=>
    have:=zo.eq_trans hx he' he h2 h0
    simp only [ZW];rw[if_neg (by omega),if_pos this]
   ·simp only [ZW];rw[if_neg (by omega),if_pos h0]
theorem zg8 {e e':EV}(he:OE e)(he':OE e')(t:PS)(h0:zw e' e≠0):∀{k:PK},(∀x∈k.es,OE x)→ZW e (zbA e' t k)=ZW e k
 | .nil,_=>by simp [zbA,ZW,h0]
 | .cons x s r,ho=>by
  have hx:OE x:=ho x (by simp [PK.es])
  have ih:=zg8 he he' t h0 (k:=r) fun y hy=>ho y (by simp [PK.es,hy])
  simp only [zbA]
  split
  ·simp only [ZW,ih]
  ·split
   ·next h1 h2=>
    have h3:zw x e≠0:=fun h=>h0 (zo.eq_trans he' hx he (by have:=zo.anti x e' hx he';omega) h)
    simp only [ZW];rw[if_neg h3,if_neg h3]
   ·next h1 h2=>
    by_cases h3:zw e' e<0
    ·simp only [ZW];rw[if_pos h3]
    ·have h4:zw e e'≤0:=by have:=zo.anti e' e he' he;omega
     have h5:zw e' x<0:=by have:=zo.anti x e' hx he';omega
     have h6:=zo.le_lt he he' hx h4 h5
     have h7:=zo.anti e x he hx
     simp only [ZW];rw[if_neg h3,if_neg h0,if_neg (by omega),if_neg (by omega)]
theorem zkd (e:EV)(t:PS):∀k:PK,(zbA e t k).size+(ZW e k).size=k.size+t.size
 | .nil=>by simp only [zbA,ZW,PK.size,PS.empty,PS.size];simp
 | .cons x s r=>by
  have ih:=zkd e t r
  simp only [zbA,ZW]
  split
  ·simp only [PK.size];omega
  ·split
   ·simp only [PK.size];omega
   ·simp only [PK.size,PS.empty,PS.size];simp;omega
theorem zf5 {ms:List EV}{q:EV}:(ms.any fun x=>decide (zw x q=0))=true↔∃x∈ms,zw x q=0:=by simp
theorem zr8 {e:EV}{ms:List EV}(he:GoodE e)(hm:∀x∈ms,GoodE x)(hs:zaQ ms):(zb8 e ms).length=ms.length+if (ms.any fun x=>decide (zw x e=0))=true then 0 else 1:=by
 have h:=zmv he.o (fun x hx=>(hm x hx).o) hs
 by_cases hh:zgC e ms
 ·rw[if_pos (zf5.2 (h.1 hh)),zfu e ms hh];rfl
 ·rw[if_neg fun k=>hh (h.2 (zf5.1 k)),ziC e ms hh,ZV]
theorem zr9 {e q:EV}{ms:List EV}(he:GoodE e)(hq:OE q)(hm:∀x∈ms,GoodE x):(∃x∈zb8 e ms,zw x q=0)↔zw e q=0∨∃x∈ms,zw x q=0:=by
 constructor
 ·rintro ⟨x,hx,h0⟩
  rcases zdI hx with rfl|hx
  ·exact .inl h0
  ·exact .inr ⟨x,hx,h0⟩
 ·rintro (h0|⟨x,hx,h0⟩)
  ·obtain ⟨x,hx,h1⟩:=zmw he.o ms
   have hxo:OE x:=by
    rcases zdI hx with rfl|hx
    ·exact he.o
    ·exact (hm x hx).o
   exact ⟨x,hx,zo.eq_trans hxo he.o hq h1 h0⟩
  ·exact ⟨x,zg6 hx,h0⟩
theorem PS.ins_size {N:Nat}:∀(p:List EV) {s:PS},OkS N s→(∀e∈p,GoodE e)→p≠ []→(s.ins p).size=s.size+if s.has p=true then 0 else 1
 | [],_,_,_,h=>absurd rfl h
 | [e],.mk ms ks,ok,hp,_=>by
  simp only [OkS] at ok
  have hh:(PS.mk ms ks).has [e]=(ms.any fun x=>decide (zw x e=0)):=by simp only [PS.has]
  rw[hh]
  simp only [PS.ins,PS.size]
  have h:=zr8 (hp e (by simp)) ok.1 ok.2.1
  by_cases hB:(ms.any fun x=>decide (zw x e=0))=true
  ·rw[if_pos hB] at h ⊢;omega
  ·rw[if_neg hB] at h ⊢;omega
 |e::f::p,.mk ms ks,ok,hp,_=>by
  simp only [OkS] at ok
  have ih:=PS.ins_size (f::p) (zef e ok.2.2.2.2.2.2) (fun x hx=>hp x (List.mem_cons_of_mem _ hx)) (by simp)
  have h:=zkd e ((ZW e ks).ins (f::p)) ks
  have hh:(PS.mk ms ks).has (e::f::p)=(ZW e ks).has (f::p):=by simp only [PS.has]
  rw[hh]
  simp only [PS.ins,PS.size]
  rw[ih] at h
  by_cases hB:(ZW e ks).has (f::p)=true
  ·rw[if_pos hB] at h ⊢;omega
  ·rw[if_neg hB] at h ⊢;omega
theorem zsa (e f:EV):zbq [e] [f]=0↔zw e f=0:=by
 simp only [zbq]
 split<;>simp_all
theorem znL (e f g:EV)(q:List EV):zbq [e] (f::g::q)≠0:=by
 simp only [zbq]
 split<;>simp
theorem zpO (e f g:EV)(q:List EV):zbq (e::f::q) [g]≠0:=by
 simp only [zbq]
 split<;>simp
theorem zsb (e f g h:EV)(p q:List EV):zbq (e::g::p) (f::h::q)=0↔zw e f=0∧zbq (g::p) (h::q)=0:=by
 rw[zbq]
 split
 ·next h0=>simp [h0]
 ·next h0=>simp [h0]
theorem zke {e g:EV}(he:OE e)(hg:OE g)(h0:zw e g=0):∀{k:PK},(∀x∈k.es,OE x)→ZW e k=ZW g k
 | .nil,_=>rfl
 | .cons x s r,ho=>by
  have hx:OE x:=ho x (by simp [PK.es])
  have ih:=zke he hg h0 (k:=r) fun y hy=>ho y (by simp [PK.es,hy])
  have h1:zw x e<0↔zw x g<0:=⟨fun h=>zo.lt_le hx he hg h (by omega),fun h=>zo.lt_le hx hg he h (by have:=zo.anti e g he hg;omega)⟩
  have h2:zw x e=0↔zw x g=0:=⟨fun h=>zo.eq_trans hx he hg h h0,fun h=>zo.eq_trans hx hg he h (by have:=zo.anti e g he hg;omega)⟩
  simp only [ZW,h1,h2,ih]
theorem PS.ins_has {N:Nat}:∀(p q:List EV) {s:PS},OkS N s→(∀e∈p,GoodE e)→(∀e∈q,OE e)→p≠ []→q≠ []→((s.ins p).has q=true↔zbq p q=0∨s.has q=true)
 | [],_,_,_,_,_,h,_=>absurd rfl h
 |_,[],_,_,_,_,_,h=>absurd rfl h
 | [e],[g],.mk ms ks,ok,hp,hq,_,_=>by
  simp only [OkS] at ok
  simp only [PS.ins,PS.has,zf5,zsa]
  exact zr9 (hp e (by simp)) (hq g (by simp)) ok.1
 | [e],g::h::q,.mk ms ks,ok,hp,hq,_,_=>by
  simp only [PS.ins,PS.has]
  have:=znL e g h q
  simp [this]
 |e::f::p,[g],.mk ms ks,ok,hp,hq,_,_=>by
  simp only [PS.ins,PS.has]
  have:=zpO e f g p
  simp [this]
 |e::f::p,g::h::q,.mk ms ks,ok,hp,hq,_,_=>by
  simp only [OkS] at ok
  simp only [PS.ins,PS.has,zsb]
  have he:=(hp e (by simp)).o
  have hg:=hq g (by simp)
  have ho:∀x∈ks.es,OE x:=fun x hx=>(ok.2.2.2.1 x hx).o
  by_cases h0:zw e g=0
  ·have ih:=PS.ins_has (f::p) (h::q) (zef e ok.2.2.2.2.2.2) (fun x hx=>hp x (List.mem_cons_of_mem _ hx)) (fun x hx=>hq x (List.mem_cons_of_mem _ hx)) (by simp) (by simp)
   have hgk:ZW e ks=ZW g ks:=zke he hg h0 ho
   rw[zg7 hg he _ h0 ho,ih,hgk]
   simp [h0]
  ·rw[zg8 hg he _ h0 ho]
   simp [h0]
theorem zf6:∀(n:Nat) (l:List (List EV)),l.length=n→(∀p∈l,∀e∈p,GoodE e)→OkW (mkW l)∧(mkP l).size=(mkW l).length∧∀q:List EV,q≠ []→(∀e∈q,OE e)→((mkP l).has q=true↔zgH (mkW l) q=true)
 |0,l,h,_=>by
  cases l with
  |cons _ _=>simp at h
  |nil=>
   refine ⟨⟨by simp,by simp,by simp⟩,by simp [PS.empty,PS.size,PK.size],fun q hq _=>?_⟩
   have:∀q:List EV,PS.empty.has q=false:=fun q=>by
    induction q with
    |nil=>simp [PS.has]
    |cons e q ih=>
     cases q with
     |nil=>simp [PS.empty,PS.has]
     |cons f q=>simpa [PS.empty,PS.has,ZW] using ih
   simp [this,zgH]
 |n+1,l,h,hg=>by
  obtain ⟨m,p,rfl⟩:∃m p,l=m++ [p]:=⟨l.dropLast,l.getLast (by intro h0;rw[h0] at h;simp at h),(List.dropLast_concat_getLast _).symm⟩
  have hgm:∀q∈m,∀e∈q,GoodE e:=fun q hq=>hg q (by simp [hq])
  have hp:∀e∈p,GoodE e:=hg p (by simp)
  obtain ⟨i1,i2,i3⟩:=zf6 n m (by simpa using h) hgm
  have hok:=zfw _ m rfl hgm
  rw[zf4,zdJ]
  refine ⟨ztV hp i1,?_,fun q hq hqo=>?_⟩
  ·by_cases hne:p= []
   ·subst hne
    rw[ze1];simpa [zfy] using i2
   ·rw[PS.ins_size p hok hp hne,zr6 hne,i2]
    have:=i3 p hne fun e he=>(hp e he).o
    by_cases hw:zgH (mkW m) p=true
    ·rw[if_pos hw,if_pos (this.2 hw)]
    ·rw[if_neg hw,if_neg fun h=>hw (this.1 h)]
  ·by_cases hne:p= []
   ·subst hne
    rw[ze1];simpa [zfy] using i3 q hq hqo
   ·rw[PS.ins_has p q hok hp hqo hne hq,zr7 (fun e he=>(hp e he).o) hqo hne i1,i3 q hq hqo]
end Go.Smd
end
section
namespace Go.Smd
open Go.RowKit Go.Proofs Go.Proofs.Tryz Go.ChangeShapes Go.WideShapes Go.Deep
theorem zmx {w:World}{base:Nat}{a:Addr}{n:Nat}{cs:List Value}(h:w.cells? base a n=some cs):CellsAt w a cs:=fun i u hu=>by
 obtain ⟨_,hl,hc⟩:=World.cells?_some h
 rw[hc i (by rw[←hl];exact (List.getElem?_eq_some_iff.1 hu).1)];exact hu
def Light (l:List Nat):Prop:=∀x∈l,x≤140737488351232
theorem Light.append {l m:List Nat}(h:Light (l++m)):Light l∧Light m:=⟨fun x hx=>h x (List.mem_append_left _ hx),fun x hx=>h x (List.mem_append_right _ hx)⟩
theorem Light.all {H:Type}{P:Program}{e:TypeId}:∀{ds:List (DataW H)},Light (DataW.weightsAll P e ds)→∀d∈ds,Light (d.weights P e)
 | [],_,d,hd=>by simp at hd
 |d0::ds,h,d,hd=>by
  simp only [DataW.weightsAll] at h
  rcases List.mem_cons.1 hd with rfl|hd
  ·exact h.append.1
  ·exact Light.all h.append.2 d hd
section
variable {H:Type} {enc:TypeId×Value→H} {w:World} {held:Bool}
theorem zpP {P:Program}{t e:TypeId}(ht:P.underlying t=some (.slice e))(he:P.underlying e=some .string)(hc:P.cellsOf e=1)(hb:P.bytesOf e=16){fuel:Nat}{cs:List Value}{x:DataW H×List MemPlace}
  (h:DataW.trod enc P w 0 (fun _=>true) held fuel t cs=some x) (hw:Light (x.1.weights P t)):
  ∃A c ss,cs= [.slice A (List.length ss) c]∧ss.length≤c∧RepStrs (fun _=>True) w A ss∧ss.length*16≤140737488351232∧∀s∈ss,s.size≤140737488351232:=by
 rcases open_slice1 ht hc h with ⟨rfl,rfl⟩|⟨a,len,cap,m,n,V,D,Pl,rfl,_,hl,_,hm,rfl,hx⟩
 ·exact ⟨none,0,[],rfl,Nat.zero_le _,RowOf.nil,by simp,by simp⟩
 ·have hm':m=cap:=by simpa using hm
  subst hm'
  have key:∀i:Nat,∃s:ByteArray,i<m→V i= .string s∧D i= .lit (.string s.data.toList):=fun i=>by
   by_cases hi:i<m
   ·obtain ⟨s,h1,h2,_⟩:=DataW.trod_string he (hx i hi).2
    exact ⟨s,fun _=>⟨by simpa using h1,congrArg Prod.fst h2⟩⟩
   ·exact ⟨⟨#[]⟩,fun h=>absurd h hi⟩
  let F:Nat→ByteArray:=fun i=>Classical.choose (key i)
  have hF:∀i,i<m→V i= .string (F i)∧D i= .lit (.string (F i).data.toList):=fun i hi=>Classical.choose_spec (key i) hi
  have hlen:((List.range len).map F).length=len:=by simp
  simp only [DataW.weights,ht,hb,List.length_map,List.length_range] at hw
  have hw1:(len+(m - len))*16≤140737488351232:=hw _ (List.mem_cons_self ..)
  have hw2:Light (DataW.weightsAll P e ((List.range len).map D)):=fun x hx=>hw x (List.mem_cons_of_mem _ (List.mem_append_left _ hx))
  refine ⟨some a,m,(List.range len).map F,by rw[hlen],by rw[hlen];exact hl,fun j x hj=>?_,by rw[hlen];omega,fun s hs=>?_⟩
  ·rw[List.getElem?_map] at hj
   obtain ⟨i,hi,rfl⟩:=Option.map_eq_some_iff.1 hj
   obtain ⟨hlt,rfl⟩:=List.getElem?_eq_some_iff.1 hi
   simp only [List.length_range] at hlt
   simp only [List.getElem_range]
   refine ⟨a,[V j],rfl,trivial,by rw[(hF j (by omega)).1];rfl,rfl,fun i u hu=>?_⟩
   match i,hu with
   |0,hu=>
    simp at hu;subst hu
    have:=(hx j (by omega)).1
    simpa [Addr.add] using this
  ·obtain ⟨i,hi,rfl⟩:=List.mem_map.1 hs
   have hi':i<len:=by simpa using hi
   have:=Light.all hw2 (D i) (List.mem_map.2 ⟨i,hi,rfl⟩)
   rw[(hF i (by omega)).2] at this
   simp only [DataW.weights] at this
   have:=this _ (List.mem_singleton_self _)
   rw[ByteArray.size,Array.size_eq_length_toList];exact this
theorem znM {P:Program}{t:TypeId}{k:FloatKind}{fuel:Nat}{cs:List Value}{x:DataW H×List MemPlace}(ht:P.underlying t=some (.float k))(h:DataW.trod enc P w 0 (fun _=>true) held fuel t cs=some x):∃n,cs= [.float k n]∧x=(.lit (.float k n),[])∧(Lit.float k n).wf=true:=by
 cases fuel with
 |zero=>simp [DataW.trod] at h
 |succ n=>
  unfold DataW.trod at h
  rw[ht] at h
  split at h<;>simp_all
theorem zsc:∀(fuel:Nat) (cs:List Value) (x:DataW H×List MemPlace),DataW.trod enc prog w 0 (fun _=>true) held fuel 27 cs=some x→Light (x.1.weights prog 27)→
  ∃v,RepGV (fun _=>True) w v cs:=by
 intro fuel
 induction fuel using Nat.strongRecOn with
 |_ fuel IH=>
 intro cs x h hw
 obtain ⟨xs,n,rfl,rfl,hlen,hxl,hf⟩:=DataW.trod_struct underlying27 h
 have e6:prog.cellsOf 27=6:=by kernel_rfl
 have e1:prog.cellsOf 3=1:=by kernel_rfl
 have e2:prog.cellsOf 2=1:=by kernel_rfl
 have e3:prog.cellsOf 25=1:=by kernel_rfl
 have e4:prog.cellsOf 9=1:=by kernel_rfl
 have e5:prog.cellsOf 24=1:=by kernel_rfl
 have e7:prog.cellsOf 23=1:=by kernel_rfl
 rw[e6] at hlen
 match cs,hlen with
 | [c0,c1,c2,c3,c4,c5],_=>
 match xs,hxl with
 | [x0,x1,x2,x3,x4,x5],_=>
 have f0:DataW.trod enc prog w 0 (fun _=>true) held n 3 (([c0,c1,c2,c3,c4,c5].drop 0).take (prog.cellsOf 3))=some x0:=hf 0 _ rfl
 rw[e1] at f0
 change DataW.trod enc prog w 0 (fun _=>true) held n 3 [c0]=some x0 at f0
 have f1:DataW.trod enc prog w 0 (fun _=>true) held n 2 (([c0,c1,c2,c3,c4,c5].drop 1).take (prog.cellsOf 2))=some x1:=hf 1 _ rfl
 rw[e2] at f1
 change DataW.trod enc prog w 0 (fun _=>true) held n 2 [c1]=some x1 at f1
 have f2:DataW.trod enc prog w 0 (fun _=>true) held n 25 (([c0,c1,c2,c3,c4,c5].drop 2).take (prog.cellsOf 25))=some x2:=hf 2 _ rfl
 rw[e3] at f2
 change DataW.trod enc prog w 0 (fun _=>true) held n 25 [c2]=some x2 at f2
 have f3:DataW.trod enc prog w 0 (fun _=>true) held n 9 (([c0,c1,c2,c3,c4,c5].drop 3).take (prog.cellsOf 9))=some x3:=hf 3 _ rfl
 rw[e4] at f3
 change DataW.trod enc prog w 0 (fun _=>true) held n 9 [c3]=some x3 at f3
 have f4:DataW.trod enc prog w 0 (fun _=>true) held n 24 (([c0,c1,c2,c3,c4,c5].drop 4).take (prog.cellsOf 24))=some x4:=hf 4 _ rfl
 rw[e5] at f4
 change DataW.trod enc prog w 0 (fun _=>true) held n 24 [c4]=some x4 at f4
 have f5:DataW.trod enc prog w 0 (fun _=>true) held n 23 (([c0,c1,c2,c3,c4,c5].drop 5).take (prog.cellsOf 23))=some x5:=hf 5 _ rfl
 rw[e7] at f5
 change DataW.trod enc prog w 0 (fun _=>true) held n 23 [c5]=some x5 at f5
 obtain ⟨kind,h0,hx0,hr0⟩:=DataW.trod_int underlying3 f0
 obtain ⟨N,h1,hx1,hr1⟩:=DataW.trod_int underlying2 f1
 obtain ⟨F,h2,hx2,hr2⟩:=znM underlying25 f2
 obtain ⟨s,h3,hx3,hr3⟩:=DataW.trod_string underlying9 f3
 simp only [List.cons.injEq,and_true] at h0 h1 h2 h3
 subst h0;subst h1;subst h2;subst h3
 simp only [List.map_cons,List.map_nil,DataW.weights,underlying27,DataW.weightsEach] at hw
 have hw:Light (DataW.weights prog 3 x0.1++(DataW.weights prog 2 x1.1++(DataW.weights prog 25 x2.1++(DataW.weights prog 9 x3.1++(DataW.weights prog 24 x4.1++(DataW.weights prog 23 x5.1++ [])))))):=hw
 have w3:=hw.append.2.append.2.append.2.append.1
 have w4:=hw.append.2.append.2.append.2.append.2.append.1
 have w5:=hw.append.2.append.2.append.2.append.2.append.2.append.1
 obtain ⟨ka,kc,keys,hk,hkc,hkr,hk16,hks⟩:=zpP underlying24 underlying9 e4 (by kernel_rfl) f4 w4
 simp only [List.cons.injEq,and_true] at hk
 subst hk
 have hss:s.size≤140737488351232:=by
  rw[hx3] at w3
  simp only [DataW.weights] at w3
  have:=w3 _ (List.mem_singleton_self _)
  rw[ByteArray.size,Array.size_eq_length_toList];exact this
 have okk:∀{l:List GV},l.length*88≤140737488351232→GVok kind N F s keys l:=fun hl=>by
  refine ⟨?_,?_,?_,hss,hk16,hks,hl⟩
  ·have:=hr0;simp [Lit.wf,IntKind.min,IntKind.max,IntKind.signed,IntKind.bits] at this;omega
  ·have:=hr1;simp [Lit.wf,IntKind.min,IntKind.max,IntKind.signed,IntKind.bits] at this;omega
  ·have:=hr2;simp [Lit.wf] at this;omega
 rcases DataW.trod_slice underlying23 f5 with ⟨h5,rfl⟩|⟨a,len,cap,elems,rest,n',rfl,h5,rfl,_,hl,_,hlen5,hel,_,_⟩
 ·simp only [List.cons.injEq,and_true] at h5
  subst h5
  exact ⟨.mk kind N F s keys [],RepGV.close (l:=[]) (okk (by simp)) hkc (Nat.zero_le _) hkr RowOf.nil⟩
 ·simp only [List.cons.injEq,and_true] at h5
  subst h5
  have hb:prog.bytesOf 27=88:=by kernel_rfl
  simp only [DataW.weights,underlying23,List.length_map,hb,hlen5] at w5
  have hw1:(len+rest.length)*88≤140737488351232:=w5 _ (List.mem_cons_self ..)
  have hw2:Light (DataW.weightsAll prog 27 (elems.map (·.1))):=fun x hx=>w5 x (List.mem_cons_of_mem _ (List.mem_append_left _ hx))
  have key:∀j:Nat,∃p:GV×List Value,j<len→CellsAt w (a.add (j*6)) p.2∧RepGV (fun _=>True) w p.1 p.2:=fun j=>by
   by_cases hj:j<len
   ·have he:=hel j hj
    rw[e6] at he
    obtain ⟨y,hy⟩:∃y,elems[j]? =some y:=⟨elems[j]'(by omega),List.getElem?_eq_getElem _⟩
    rw[hy] at he
    obtain ⟨cs',hc,ht⟩:=Option.bind_eq_some_iff.1 he
    obtain ⟨v,hv⟩:=IH n' (by omega) cs' y ht (Light.all hw2 y.1 (List.mem_map.2 ⟨y,List.mem_of_getElem? hy,rfl⟩))
    exact ⟨(v,cs'),fun _=>⟨zmx hc,hv⟩⟩
   ·exact ⟨(.mk 0 0 0 ⟨#[]⟩ [] [],[]),fun h=>absurd h hj⟩
  let G:Nat→GV×List Value:=fun j=>Classical.choose (key j)
  have hG:∀j,j<len→CellsAt w (a.add (j*6)) (G j).2∧RepGV (fun _=>True) w (G j).1 (G j).2:=fun j hj=>Classical.choose_spec (key j) hj
  have hlenl:((List.range len).map fun j=>(G j).1).length=len:=by simp
  refine ⟨.mk kind N F s keys ((List.range len).map fun j=>(G j).1),?_⟩
  have:=RepGV.close (S:=fun _=>True) (w:=w) (la:=some a) (lc:=cap) (okk (l:=(List.range len).map fun j=>(G j).1) (by rw[hlenl];omega)) hkc (by rw[hlenl];exact hl) hkr (fun j x hj=>by
   rw[List.getElem?_map] at hj
   obtain ⟨i,hi,rfl⟩:=Option.map_eq_some_iff.1 hj
   obtain ⟨hlt,rfl⟩:=List.getElem?_eq_some_iff.1 hi
   simp only [List.length_range] at hlt
   simp only [List.getElem_range]
   exact ⟨a,(G j).2,rfl,trivial,(hG j hlt).2,(hG j hlt).2.length,(hG j hlt).1⟩)
  rw[hlenl] at this
  exact this
end
end Go.Smd
end
section
namespace Go.Smd
open Go.RowKit Go.Proofs Go.Proofs.Tryz Go.ChangeShapes Go.WideShapes Go.ChangeAt
theorem zsd:ownKnob prog.godebug=none:=by kernel_rfl
theorem zse:laidOutB prog=true:=by kernel_rfl
section
variable {H:Type} {enc:TypeId×Value→H}
theorem ze8 {W W':World}(hb:Below W.heap.size W W'):∀{ts:List TypeId} {vs:List Value} {ds:List (DataW H)} {ps:List MemPlace},
  (∀t∈ts,prog.readableRec t=true∧t<prog.types.size)→DataW.TrodAll enc prog W 0 (fun _=>true) true ts vs ds ps→(∀x∈ps,x.block<W.heap.size)→
  DataW.TrodAll enc prog W' 0 (fun b=>decide (b<W.heap.size)) true ts vs ds ps
 | [],vs,ds,ps,_,h,_=>by
  match vs,ds,h with
  | [],[],h=>exact h
 |t::ts,vs,ds,ps,hr,h,hlt=>by
  match vs,ds,h with
  |v::vs,d::ds,⟨p,q,h1,h2,e⟩=>
   subst e
   exact ⟨p,q,Below.trod zse (hr t (List.mem_cons_self ..)).1 (hr t (List.mem_cons_self ..)).2 h1 hb fun x hx=>hlt x (List.mem_append_left _ hx),
    ze8 hb (fun t ht=>hr t (List.mem_cons_of_mem _ ht)) h2 fun x hx=>hlt x (List.mem_append_right _ hx),rfl⟩
theorem zsf {fn:Func}{s:ChangeSpec}{W W':World}{args:Array Value}{ds gs:List (DataW H)}{before:List MemPlace}(hv:s.vars= [])(hr:fn.resultTypes= #[4])
  (hp:∀t∈fn.params.toList,prog.readableRec t=true∧t<prog.types.size)
  (hW:DataW.Whole enc prog fn.params.toList s.vars false W args.toList ds gs before) (hs:s.fn H ds={ results:=[.lit (.bool true)],args:=ds }) (hE:Ext W W'):
  s.post enc prog fn false true false false W args (.bool true) W':=by
 have hlt:∀p∈before,p.block<W.heap.size:=fun p hp=>hW.lt p hp
 have hW':=hW
 obtain ⟨p,q,hA,hV,rfl,hfz,hnd⟩:=hW
 rw[hv] at hV
 obtain ⟨rfl,rfl⟩:=trodVars_none hV
 have hA':=ze8 hE hp hA fun x hx=>hlt x (by simpa using hx)
 refine ⟨ds,[],p++ [],[],p,[],hW',?_,?_,?_,?_,fun h=>by cases h⟩
 ·rw[hr,List.append_nil,hs]
  exact trodAll_mk1 (shut_bool underlying4 true)
 ·rw[List.append_nil,hs];exact hA'
 ·rw[hv,List.append_nil,hs];rfl
 ·exact World.keptBut_mono (fun x hx=>hx) (Below.frame hE _)
end
theorem zsg {fn:Func}{f:FuncId}{s:ChangeSpec}(hfn:prog.funcs[f]? =some fn)(hv:s.vars= [])(hr:fn.resultTypes= #[4])
  (hp:∀t∈fn.params.toList,prog.readableRec t=true∧t<prog.types.size) (hi:prog.inits.idxOf? f=none)
  {os:Os} (started:os.Started) {H:Type} {enc:TypeId×Value→H}
  (hs:∀ds:List (DataW H),ds.length=fn.params.size→s.fn H ds={ results:=[.lit (.bool true)],args:=ds })
  (witness:∃(w:World) (tape:Tape) (i:Input),w.os=os∧(w.forCall tape i).Shaped prog∧i.vars= []∧Input.okWide prog (w.forCall tape i) .any w.heap.size f i∧
   s.pre6 enc prog fn [] false (w.forCall tape i).memory i.args∧({}:Assume).holds prog (lone (Frame.enter prog f i.args .normal) [] (w.forCall tape i)))
  (walk:∀(W:World) (args:Array Value) (ds:List (DataW H)) (p:List MemPlace),DataW.TrodAll enc prog W 0 (fun _=>true) true fn.params.toList args.toList ds p→
   (∀x∈DataW.weightsEach prog fn.params.toList ds,x≤140737488351232)→
   (∃base:Nat,∀(j:Nat) t v,fn.params[j]? =some t→args[j]? =some v→Value.okWide prog W .any base t v)→Calls prog f args W (Makes (fun _ u=>u= .bool true) W)):
  ReturnsInHanded {} Tryz.checked os f .any (s.pre6 enc prog fn [] false) (s.post enc prog fn false true false false):=by
 refine returnsInHanded_of_change_sized (C:=Tryz.checked) zsd started hi hfn witness ?_
 intro W base args ds gs before hval hW _ hweights _
 have hW':=hW
 obtain ⟨p,q,hA,hV,rfl,hfz,hnd⟩:=hW
 rw[hv] at hV
 obtain ⟨rfl,rfl⟩:=trodVars_none hV
 have hlen:ds.length=fn.params.size:=by
  have:∀{ts:List TypeId} {vs:List Value} {ds:List (DataW H)} {ps:List MemPlace},DataW.TrodAll enc prog W 0 (fun _=>true) true ts vs ds ps→ds.length=ts.length:=by
   intro ts
   induction ts with
   |nil=>intro vs ds ps h;match vs,ds,h with| [],[],_=>rfl
   |cons t ts ih=>intro vs ds ps h;match vs,ds,h with|v::vs,d::ds,⟨_,_,_,h2,_⟩=>simp [ih h2]
  simpa using this hA
 refine (walk W args ds p hA (fun x hx=>?_) ⟨base,hval⟩).mono fun e W' h=>?_
 ·have e:s.plain.varTypes prog= []:=by simp [DataSpec.varTypes,ChangeSpec.plain,hv]
  have hw:(DataW.weightsEach prog (fn.params.toList++s.plain.varTypes prog) (ds++ [])).all (· ≤reachBytes)=true:=hweights
  rw[e,List.append_nil,List.append_nil,List.all_eq_true] at hw
  exact of_decide_eq_true (hw x hx)
 ·obtain ⟨v,rfl,rfl,hE⟩:=h
  exact ⟨_,rfl,zsf hv hr hp hW' (hs ds hlen) hE⟩
end Go.Smd
end
section
namespace Go.Smd
open Go.RowKit Go.Proofs Go.Proofs.Tryz Go.ChangeShapes Go.WideShapes Go.Deep
section
variable {H:Type} {enc:TypeId×Value→H} {w:World} {held:Bool} {P:Program}
variable (enc w held P) in
def OpensAt {α:Type}(n:Nat)(T:TypeId)(E:α→List D):Prop:=∀(m:Nat),m≤n→∀(cs:List Value) (x:DataW H×List MemPlace),DataW.trod enc P w 0 (fun _=>true) held m T cs=some x→Light (x.1.weights P T)→
 ∃a,All2 (RepD P w (fun _=>True)) (E a) cs
theorem OpensAt.le {α:Type}{n m:Nat}{T:TypeId}{E:α→List D}(h:OpensAt enc w held P n T E)(hm:m≤n):OpensAt enc w held P m T E:=fun k hk=>h k (Nat.le_trans hk hm)
theorem zkf {n:Nat}{T:TypeId}(ht:P.underlying T=some .string):OpensAt enc w held P n T fun s:ByteArray=>[.v (.string s)]:=fun m _ cs x h hw=>by
 obtain ⟨s,h1,h2,_⟩:=DataW.trod_string ht h
 subst h1;subst h2
 refine ⟨s,.cons (.v ?_) .nil⟩
 simp only [DataW.weights] at hw
 have:=hw _ (List.mem_singleton_self _)
 simp only [z7,decide_eq_true_eq]
 rw[ByteArray.size,Array.size_eq_length_toList];exact this
theorem zkg {n:Nat}{T:TypeId}{k:IntKind}(ht:P.underlying T=some (.int k)):OpensAt enc w held P n T fun i:Int=>[.v (.int k i)]:=fun m _ cs x h hw=>by
 obtain ⟨i,h1,h2,h3⟩:=DataW.trod_int ht h
 subst h1
 refine ⟨i,.cons (.v ?_) .nil⟩
 simp only [z7]
 cases k<;>simp [Z7,Lit.wf,IntKind.min,IntKind.max,IntKind.signed,IntKind.bits] at h3 ⊢ <;>omega
theorem zdl {α:Type}[Inhabited α]{n:Nat}{T E:TypeId}{e:α→List D}(ht:P.underlying T=some (.slice E))(hl:∀a,(e a).length=P.cellsOf E)(h:∀m,m<n→OpensAt enc w held P m E e):
  OpensAt enc w held P n T fun l:List α=>[.sl E (l.map e)]:=fun m hm cs x hx hw=>by
 rcases DataW.trod_slice ht hx with ⟨rfl,rfl⟩|⟨a,len,cap,elems,rest,n',rfl,rfl,rfl,_,hle,_,hlen,hel,_,_⟩
 ·exact ⟨[],.cons (RepD.nil E) .nil⟩
 ·simp only [DataW.weights,ht,List.length_map,hlen] at hw
  have hw1:(len+rest.length)*P.bytesOf E≤140737488351232:=hw _ (List.mem_cons_self ..)
  have hw2:Light (DataW.weightsAll P E (elems.map (·.1))):=fun x hx=>hw x (List.mem_cons_of_mem _ (List.mem_append_left _ hx))
  have key:∀j:Nat,∃p:α×List Value,j<len→CellsAt w (a.add (j*P.cellsOf E)) p.2∧All2 (RepD P w (fun _=>True)) (e p.1) p.2:=fun j=>by
   by_cases hj:j<len
   ·have he:=hel j hj
    obtain ⟨y,hy⟩:∃y,elems[j]? =some y:=⟨elems[j]'(by omega),List.getElem?_eq_getElem _⟩
    rw[hy] at he
    obtain ⟨cs',hc,ht'⟩:=Option.bind_eq_some_iff.1 he
    obtain ⟨v,hv⟩:=h n' (by omega) n' (Nat.le_refl _) cs' y ht' (Light.all hw2 y.1 (List.mem_map.2 ⟨y,List.mem_of_getElem? hy,rfl⟩))
    exact ⟨(v,cs'),fun _=>⟨zmx hc,hv⟩⟩
   ·exact ⟨(default,[]),fun h=>absurd h hj⟩
  let G:Nat→α×List Value:=fun j=>Classical.choose (key j)
  have hG:∀j,j<len→CellsAt w (a.add (j*P.cellsOf E)) (G j).2∧All2 (RepD P w (fun _=>True)) (e (G j).1) (G j).2:=fun j hj=>Classical.choose_spec (key j) hj
  refine ⟨(List.range len).map fun j=>(G j).1,.cons (RepD.sl_iff.2 ⟨some a,cap,by simp,by simpa using hle,by
   have:=Nat.mul_le_mul_right (P.bytesOf E) (Nat.le_add_right len rest.length)
   simp;omega,fun j r hj=>?_⟩) .nil⟩
  rw[List.getElem?_map] at hj
  obtain ⟨y,hy,rfl⟩:=Option.map_eq_some_iff.1 hj
  rw[List.getElem?_map] at hy
  obtain ⟨i,hi,rfl⟩:=Option.map_eq_some_iff.1 hy
  obtain ⟨hlt,rfl⟩:=List.getElem?_eq_some_iff.1 hi
  simp only [List.length_range] at hlt
  simp only [List.getElem_range]
  refine ⟨hl _,fun _=>⟨a,rfl,fun i d hd=>?_⟩⟩
  obtain ⟨hc,hr⟩:=hG j hlt
  obtain ⟨u,hu,hd'⟩:=hr.at hd
  exact ⟨u,trivial,hc i u hu,hd'⟩
theorem zkh {n:Nat}:OpensAt enc w held prog n 27 gvD:=fun m _ cs x h hw=>by
 obtain ⟨g,hg⟩:=zsc m cs x h hw
 exact ⟨g,zjQ hg⟩
theorem zpQ {S:Nat→Prop}{β:Nat→Value}{h:Nat→Option Ow}{xs:List D}{us:List Value}(k:All2 (RepD P w S) xs us):All2 (RepC P S β h w) (cls xs) us:=by
 induction k with
 |nil=>exact .nil
 |cons k t ih=>exact .cons k ih
theorem zsh {α:Type}{T:TypeId}{E:α→List D}{v:Value}{d:DataW H}{p:List MemPlace}(hd:DataW.Trod enc P w 0 (fun _=>true) held T v d p)(hw:Light (d.weights P T))(h:∀n,OpensAt enc w held P n T E)(h2:∀a,(E a).length≠1):
  ∃a,RepA P (fun _=>True) noB noH w (.agg (cls (E a))) v:=by
 obtain ⟨fuel,hd⟩:=hd
 obtain ⟨a,ha⟩:=h fuel fuel (Nat.le_refl _) _ _ hd hw
 have hl:=ha.length
 refine ⟨a,v.cells.toList,?_,zpQ ha⟩
 cases v with
 |agg cs=>simp [Value.cells]
 |_=>simp [Value.cells] at hl;exact absurd hl (h2 a)
end
section
variable {H:Type} {enc:TypeId×Value→H} {w:World} {held:Bool} {P:Program}
variable (enc w held P) in
inductive FieldsAt (n:Nat):Nat→List TypeId→(List D→Prop)→Prop
 |nil {o:Nat}:FieldsAt n o [] fun ds=>ds= []
 |cons {o:Nat} {T:TypeId} {Ts:List TypeId} {α:Type} {E:α→List D} {Q:List D→Prop} (h:OpensAt enc w held P n T E) (t:FieldsAt n (o+P.cellsOf T) Ts Q):FieldsAt n o (T::Ts) fun ds=>∃a rest,ds=E a++rest∧Q rest
theorem ze9 {n:Nat}{cs:List Value}:∀{o:Nat} {Ts:List TypeId} {Q:List D→Prop} {xs:List (DataW H×List MemPlace)},FieldsAt enc w held P n o Ts Q→xs.length=Ts.length→cs.length=o+(Ts.map P.cellsOf).sum→
  (∀(i:Nat) (T:TypeId) (x:DataW H×List MemPlace) (off:Nat),Ts[i]? =some T→xs[i]? =some x→off=o+((Ts.take i).map P.cellsOf).sum→DataW.trod enc P w 0 (fun _=>true) held n T ((cs.drop off).take (P.cellsOf T))=some x∧Light (x.1.weights P T))→
  ∃ds,Q ds∧All2 (RepD P w (fun _=>True)) ds (cs.drop o)
 |o,[],_,xs,.nil,_,hc,_=>⟨[],rfl,by rw[List.drop_eq_nil_of_le (by simp at hc;omega)];exact .nil⟩
 |o,T::Ts,_,x::xs,.cons h t,hl,hc,hf=>by
  obtain ⟨h1,h2⟩:=hf 0 T x o rfl rfl (by simp)
  obtain ⟨a,ha⟩:=h n (Nat.le_refl _) _ _ h1 h2
  simp only [List.map_cons,List.sum_cons] at hc
  obtain ⟨ds,hq,hd⟩:=ze9 (cs:=cs) (xs:=xs) t (by simpa using hl) (by omega) fun i T' x' off hT hx hoff=>hf (i+1) T' x' off (by simpa using hT) (by simpa using hx) (by simp only [List.take_succ_cons,List.map_cons,List.sum_cons];omega)
  refine ⟨_,⟨a,ds,rfl,hq⟩,?_⟩
  have e:cs.drop o=(cs.drop o).take (P.cellsOf T)++cs.drop (o+P.cellsOf T):=by
   rw[←List.drop_drop,List.take_append_drop]
  rw[e]
  exact ha.append hd
theorem ziK:∀{Ts:List TypeId} {ds:List (DataW H)},Light (DataW.weightsEach P Ts ds)→∀(i:Nat) (T:TypeId) (d:DataW H),Ts[i]? =some T→ds[i]? =some d→Light (d.weights P T)
 | [],_,_,i,T,d,hT,_=>by simp at hT
 |_::_,[],_,i,T,d,_,hd=>by simp at hd
 |T0::Ts,d0::ds,h,i,T,d,hT,hd=>by
  simp only [DataW.weightsEach] at h
  cases i with
  |zero=>simp at hT hd;subst hT;subst hd;exact h.append.1
  |succ i=>exact ziK h.append.2 i T d (by simpa using hT) (by simpa using hd)
theorem zf7 {α:Type}{n:Nat}{T:TypeId}{fs:Array Field}{Q:List D→Prop}{E:α→List D}(ht:P.underlying T=some (.struct fs))
  (hoff:(List.range fs.size).all (fun i=>match fs[i]? with|some f=>f.offset==((fs.toList.map (·.type)).take i|>.map P.cellsOf).sum|none=>false)=true) (hc:P.cellsOf T=((fs.toList.map (·.type)).map P.cellsOf).sum)
  (hE:∀ds,Q ds→∃a,ds=E a) (h:∀m,m<n→FieldsAt enc w held P m 0 (fs.toList.map (·.type)) Q):OpensAt enc w held P n T E:=fun m hm cs x hx hw=>by
 obtain ⟨xs,k,rfl,rfl,hlen,hxl,hf⟩:=DataW.trod_struct ht hx
 simp only [DataW.weights,ht] at hw
 obtain ⟨ds,hq,hd⟩:=ze9 (cs:=cs) (xs:=xs) (h k (by omega)) (by simp [hxl]) (by rw[hlen,hc];omega) fun i T' x' off hT hx' hoff'=>by
  rw[List.getElem?_map] at hT
  obtain ⟨f,hfi,rfl⟩:=Option.map_eq_some_iff.1 hT
  have hfi':fs[i]? =some f:=by simpa using hfi
  have ho:=List.all_eq_true.1 hoff i (List.mem_range.2 (Array.getElem?_eq_some_iff.1 hfi').1)
  rw[hfi'] at ho
  simp only [beq_iff_eq] at ho
  have:=hf i f hfi'
  rw[hx'] at this
  refine ⟨by rw[hoff',Nat.zero_add,←ho];exact this,ziK hw i f.type x'.1 (by rw[List.getElem?_map];exact hT) (by rw[List.getElem?_map,hx'];rfl)⟩
 obtain ⟨a,rfl⟩:=hE ds hq
 exact ⟨a,by simpa using hd⟩
end
instance:Inhabited GV:=⟨.mk 0 0 0 ⟨#[]⟩ [] []⟩
instance:Inhabited EV:=⟨⟨0,⟨#[]⟩,[],[],default,0⟩⟩
def zf8 (P:Program)(T:TypeId):Array Field:=match P.underlying T with|some (.struct fs)=>fs|_=> #[]
theorem znN {H:Type}{enc:TypeId×Value→H}{w:World}{held:Bool}{n:Nat}:OpensAt enc w held prog n 29 evD:=by
 have hf:∀m,m<n→FieldsAt enc w held prog m 0 [3,9,24,23,27,3] _:=fun m _=>
  .cons (zkg (k:=.i64) (by kernel_rfl)) (.cons (zkf (by kernel_rfl)) (.cons (zdl (E:=9) (e:=fun s:ByteArray=>[dS s]) (by kernel_rfl) (fun _=>by kernel_rfl) fun _ _=>zkf (by kernel_rfl)) (.cons (zdl (E:=27) (e:=gvD) (by kernel_rfl) (fun _=>by simp) fun _ _=>zkh) (.cons zkh (.cons (zkg (k:=.i64) (by kernel_rfl)) .nil)))))
 have hT: [3,9,24,23,27,3]=(zf8 prog 29).toList.map (·.type):=by kernel_rfl
 rw[hT] at hf
 refine zf7 (fs:=zf8 prog 29) (by kernel_rfl) (by kernel_rfl) (by kernel_rfl) ?_ hf
 ·rintro ds ⟨k,_,rfl,s,_,rfl,keys,_,rfl,l,_,rfl,v,_,rfl,n,_,rfl,rfl⟩
  exact ⟨⟨k,s,keys,l,v,n⟩,by simp [evD,zag]⟩
end Go.Smd
end
