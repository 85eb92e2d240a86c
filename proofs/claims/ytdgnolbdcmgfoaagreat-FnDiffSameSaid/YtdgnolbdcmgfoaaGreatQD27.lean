/- Part 27. -/
import Derived.Test.YtdgnolbdcmgfoaaGreatQD26
import Derived.Test.YtdgnolbdcmgfoaaGreatQD25
import Derived.Test.YtdgnolbdcmgfoaaGreatQD24
set_option linter.unusedVariables false
set_option linter.unusedSimpArgs false
set_option maxRecDepth 100000
set_option maxHeartbeats 8000000
section
namespace Go.Smd
open Go.RowKit Go.Proofs Go.Proofs.Tryz
def gK:GV→Int| .mk k _ _ _ _ _=>k
def gN:GV→Int| .mk _ n _ _ _ _=>n
def gS:GV→ByteArray| .mk _ _ _ s _ _=>s
def gL:GV→List GV| .mk _ _ _ _ _ l=>l
def gF:GV→List (ByteArray×GV)| .mk _ _ _ _ ks l=>ks.zip l
def zlc:GV→Nat| .mk k n f _ _ _=>asF k n f
def zml (p q:ByteArray×GV):Int:=if zbu p.1 q.1≠0 then zbu p.1 q.1 else zan p.2 q.2
theorem zj8:∀l m:List GV,cmpPs l m=zC zan l m
 | [],[]=>by simp [cmpPs,zC]
 | [],_::_=>by simp [cmpPs,zC]
 |_::_,[]=>by simp [cmpPs,zC]
 |x::l,y::m=>by simp only [cmpPs,zC,zj8 l m]
theorem zj9:∀(ks:List ByteArray) (l:List GV) (ks':List ByteArray) (l':List GV),ks.length≤l.length→ks'.length≤l'.length→cmpPm ks l ks' l'=zC zml (ks.zip l) (ks'.zip l')
 | [],l,ks',l',_,h'=>by
  rw[zdG (.inl rfl),zd8 (.inl (by simp))]
  congr 1
  simp;omega
 |k::ks,[],_,_,h,_=>by simp at h
 |k::ks,x::l,[],l',h,_=>by
  rw[zdG (.inr rfl),zd8 (.inr (by simp))]
  congr 1
  simp at h ⊢;omega
 |k::ks,x::l,k'::ks',[],_,h'=>by simp at h'
 |k::ks,x::l,k'::ks',x'::l',h,h'=>by
  simp only [cmpPm,List.zip_cons_cons,zC,zml]
  rw[zj9 ks l ks' l' (by simpa using h) (by simpa using h')]
  by_cases e:zbu k k'=0<;>by_cases e2:zan x x'=0<;>simp [e,e2]
def dP (x y:GV):Int:=
 if rkV (gK x)=0 then (if gK x=2∧gK y=2 then zA (gN x) (gN y) else zaO (zlc x) (zlc y))
 else if rkV (gK x)=1 then zbu (gS x) (gS y) else if rkV (gK x)=2 then zA (gN x) (gN y) else if rkV (gK x)=3 then zC zan (gL x) (gL y) else if rkV (gK x)=4 then zC zml (gF x) (gF y) else 0
theorem zrL (x y:GV)(hx:okP x)(hy:okP y):zan x y=if zA (rkV (gK x)) (rkV (gK y))≠0 then zA (rkV (gK x)) (rkV (gK y)) else dP x y:=by
 cases hx with
 |mk h1 _=>cases hy with
  |mk h2 _=>simp only [zan,dP,gK,gN,gS,gL,gF,zlc,zj8,zj9 _ _ _ _ h1 h2];rfl
theorem zwM {k:Int}(h:rkV k=0):k=2∨k=3:=by unfold rkV at h;repeat' split at h<;>first|assumption|omega
theorem zwN {k:Int}(h:rkV k=3):k=5:=by
 unfold rkV at h
 split at h
 ·omega
 ·split at h
  ·omega
  ·split at h
   ·omega
   ·split at h
    ·assumption
    ·split at h<;>omega
theorem zwO {k:Int}(h:rkV k=4):k=6:=by
 unfold rkV at h
 split at h
 ·omega
 ·split at h
  ·omega
  ·split at h
   ·omega
   ·split at h
    ·omega
    ·split at h
     ·assumption
     ·omega
theorem zpD {g:GV}(h:okP g):∀x∈gL g,okP x:=by cases h with|mk _ h=>exact h
theorem zrM {g:GV}:∀p∈gF g,p.2∈gL g:=by
 obtain ⟨k,n,f,s,ks,l⟩:=g
 intro p hp
 exact (List.of_mem_zip hp).2
theorem ztQ {g x:GV}(h:x∈gL g):SizeOf.sizeOf x<SizeOf.sizeOf g:=by
 obtain ⟨k,n,f,s,ks,l⟩:=g
 have:=List.sizeOf_lt_of_mem (show x∈l from h)
 simp only [GV.mk.sizeOf_spec];omega
theorem zjb {g:GV}(h:Za g=true)(hk:gK g=5∨gK g=6):∀x∈gL g,Za x=true:=by
 obtain ⟨k,n,f,s,ks,l⟩:=g
 simp only [gK] at hk
 unfold Za at h
 have:orderlys l=true:=by rcases hk with rfl|rfl<;>simpa using h
 rw[zeE] at this
 exact List.all_eq_true.1 this
theorem zmm {g:GV}(h:Za g=true)(hk:rkV (gK g)=0):(FloatKind.f64.format.read (zlc g)).isNaN=false:=by
 obtain ⟨k,n,f,s,ks,l⟩:=g
 simp only [gK] at hk
 rcases zwM hk with rfl|rfl
 ·exact zmc n
 ·refine zrt (a:=f) ?_
  unfold Za at h
  simpa [zvv] using h
theorem zg3 {g:GV}(h:Za g=true)(hk:gK g=2):(-9007199254740992≤gN g∧gN g≤9007199254740992)∧zlc g=zi8 (gN g):=by
 obtain ⟨k,n,f,s,ks,l⟩:=g
 simp only [gK] at hk
 subst hk
 unfold Za at h
 refine ⟨by simpa [gN] using h,by simp [zlc,gN,asF]⟩
abbrev OP (N:Nat)(g:GV):Prop:=SizeOf.sizeOf g<N∧okP g∧Za g=true
theorem zgB:∀N:Nat,Ord3 (OP N) zan
 |0=>⟨fun x y h=>absurd h.1 (Nat.not_lt_zero _),fun x y z h=>absurd h.1 (Nat.not_lt_zero _)⟩
 |N+1=>by
  have ih:=zgB N
  have kv:Ord3 (fun p:ByteArray×GV=>OP N p.2) zml:=
   Ord3.lex ((zf1.comap (fun p:ByteArray×GV=>p.1)).mono fun _ _=>trivial) (d:=fun p q:ByteArray×GV=>zan p.2 q.2) (fun x y hx hy _=>ih.anti _ _ hx hy) fun x y z hx hy hz _ _=>ih.trans _ _ _ hx hy hz
  have key:∀r:Int,∃e:GV→GV→Int,Ord3 (fun g=>OP (N+1) g∧rkV (gK g)=r) e∧∀x y,OP (N+1) x→rkV (gK x)=r→OP (N+1) y→rkV (gK y)=r→dP x y=e x y:=fun r=>by
   have items:∀g,OP (N+1) g→gK g=5∨gK g=6→∀x∈gL g,OP N x:=fun g hg hk x hx=>⟨by have:=ztQ hx;have:=hg.1;omega,zpD hg.2.1 x hx,zjb hg.2.2 hk x hx⟩
   by_cases r0:r=0
   ·subst r0
    refine ⟨fun x y=>zaO (zlc x) (zlc y),(zpB.comap zlc).mono fun g hg=>zmm hg.1.2.2 hg.2,fun x y hx rx hy ry=>?_⟩
    unfold dP
    rw[if_pos rx]
    split
    ·next h=>
     obtain ⟨b1,e1⟩:=zg3 hx.2.2 h.1
     obtain ⟨b2,e2⟩:=zg3 hy.2.2 h.2
     dsimp only
     rw[e1,e2,znw _ _ b1 b2]
    ·rfl
   ·by_cases r1:r=1
    ·subst r1
     refine ⟨fun x y=>zbu (gS x) (gS y),(zf1.comap gS).mono fun _ _=>trivial,fun x y hx rx hy ry=>?_⟩
     unfold dP;rw[if_neg (by omega),if_pos rx]
    ·by_cases r2:r=2
     ·subst r2
      refine ⟨fun x y=>zA (gN x) (gN y),(zb7.comap gN).mono fun _ _=>trivial,fun x y hx rx hy ry=>?_⟩
      unfold dP;rw[if_neg (by omega),if_neg (by omega),if_pos rx]
     ·by_cases r3:r=3
      ·subst r3
       refine ⟨fun x y=>zC zan (gL x) (gL y),(ih.row.comap gL).mono fun g hg=>items g hg.1 (.inl (zwN hg.2)),fun x y hx rx hy ry=>?_⟩
       unfold dP;rw[if_neg (by omega),if_neg (by omega),if_neg (by omega),if_pos rx]
      ·by_cases r4:r=4
       ·subst r4
        refine ⟨fun x y=>zC zml (gF x) (gF y),(kv.row.comap gF).mono fun g hg p hp=>items g hg.1 (.inr (zwO hg.2)) _ (zrM p hp),fun x y hx rx hy ry=>?_⟩
        unfold dP;rw[if_neg (by omega),if_neg (by omega),if_neg (by omega),if_neg (by omega),if_pos rx]
       ·refine ⟨fun _ _=>0,⟨fun _ _ _ _=>rfl,fun _ _ _ _ _ _ _ _=>Int.le_refl _⟩,fun x y hx rx hy ry=>?_⟩
        unfold dP;rw[if_neg (by omega),if_neg (by omega),if_neg (by omega),if_neg (by omega),if_neg (by omega)]
  have zero:∀a b:Int,zA a b=0→b=a:=fun a b h=>by unfold zA at h;split at h<;>(try split at h)<;>omega
  refine Ord3.congr (Ord3.lex (O:=OP (N+1)) ((zb7.comap fun g:GV=>rkV (gK g)).mono fun _ _=>trivial) (d:=dP) (fun x y hx hy h=>?_) fun x y z hx hy hz h1 h2=>?_) fun x y hx hy=>zrL x y hx.2.1 hy.2.1
  ·obtain ⟨e,he,hd⟩:=key (rkV (gK x))
   have ey:=zero _ _ h
   rw[hd x y hx rfl hy ey,hd y x hy ey hx rfl]
   exact he.anti x y ⟨hx,rfl⟩ ⟨hy,ey⟩
  ·obtain ⟨e,he,hd⟩:=key (rkV (gK x))
   have ey:=zero _ _ h1
   have ez:=(zero _ _ h2).trans ey
   rw[hd x y hx rfl hy ey,hd y z hy ey hz ez,hd x z hx rfl hz ez]
   exact he.trans x y z ⟨hx,rfl⟩ ⟨hy,ey⟩ ⟨hz,ez⟩
theorem zrN:Ord3 (fun g:GV=>okP g∧Za g=true) zan:=
 ⟨fun x y hx hy=>(zgB (SizeOf.sizeOf x+SizeOf.sizeOf y+1)).anti x y ⟨by omega,hx⟩ ⟨by omega,hy⟩,
  fun x y z hx hy hz=>(zgB (SizeOf.sizeOf x+SizeOf.sizeOf y+SizeOf.sizeOf z+1)).trans x y z ⟨by omega,hx⟩ ⟨by omega,hy⟩ ⟨by omega,hz⟩⟩
abbrev OG (g:GV):Prop:=Za (zL g)=true
theorem ziB:Ord3 OG (fun a b=>zan (zL a) (zL b)):=(zrN.comap zL).mono fun g hg=>⟨zgy g,hg⟩
theorem zpE:Ord3 (fun p:ByteArray×GV=>OG p.2) zcb:=
 Ord3.lex ((zf1.comap (fun p:ByteArray×GV=>p.1)).mono fun _ _=>trivial) (d:=fun p q:ByteArray×GV=>zan (zL p.2) (zL q.2)) (fun x y hx hy _=>ziB.anti _ _ hx hy) fun x y z hx hy hz _ _=>ziB.trans _ _ _ hx hy hz
structure OE (e:EV):Prop where
 key:rkE e.k=1→∀p∈e.keys.zip e.l,OG p.2
 val:rkE e.k=2→OG e.v
def dE (e e':EV):Int:=if rkE e.k=1 then zC zcb (e.keys.zip e.l) (e'.keys.zip e'.l) else if rkE e.k=2 then zan (zL e.v) (zL e'.v) else if rkE e.k=3 then zA e.n e'.n else zbu e.s e'.s
theorem zo:Ord3 OE zw:=by
 have key:∀r:Int,∃c:EV→EV→Int,Ord3 (fun g=>OE g∧rkE g.k=r) c∧∀x y,OE x→rkE x.k=r→OE y→rkE y.k=r→dE x y=c x y:=fun r=>by
  by_cases r1:r=1
  ·subst r1
   refine ⟨fun x y=>zC zcb (x.keys.zip x.l) (y.keys.zip y.l),(zpE.row.comap fun x:EV=>x.keys.zip x.l).mono fun g hg=>hg.1.key hg.2,fun x y hx rx hy ry=>?_⟩
   unfold dE;rw[if_pos rx]
  ·by_cases r2:r=2
   ·subst r2
    refine ⟨fun x y=>zan (zL x.v) (zL y.v),(ziB.comap fun x:EV=>x.v).mono fun g hg=>hg.1.val hg.2,fun x y hx rx hy ry=>?_⟩
    unfold dE;rw[if_neg (by omega),if_pos rx]
   ·by_cases r3:r=3
    ·subst r3
     refine ⟨fun x y=>zA x.n y.n,(zb7.comap fun x:EV=>x.n).mono fun _ _=>trivial,fun x y hx rx hy ry=>?_⟩
     unfold dE;rw[if_neg (by omega),if_neg (by omega),if_pos rx]
    ·refine ⟨fun x y=>zbu x.s y.s,(zf1.comap fun x:EV=>x.s).mono fun _ _=>trivial,fun x y hx rx hy ry=>?_⟩
     unfold dE;rw[if_neg (by omega),if_neg (by omega),if_neg (by omega)]
 have zero:∀a b:Int,zA a b=0→b=a:=fun a b h=>by unfold zA at h;split at h<;>(try split at h)<;>omega
 refine Ord3.congr (Ord3.lex (O:=OE) ((zb7.comap fun g:EV=>rkE g.k).mono fun _ _=>trivial) (d:=dE) (fun x y hx hy h=>?_) fun x y z hx hy hz h1 h2=>?_) fun x y hx hy=>rfl
 ·obtain ⟨e,he,hd⟩:=key (rkE x.k)
  have ey:=zero _ _ h
  rw[hd x y hx rfl hy ey,hd y x hy ey hx rfl]
  exact he.anti x y ⟨hx,rfl⟩ ⟨hy,ey⟩
 ·obtain ⟨e,he,hd⟩:=key (rkE x.k)
  have ey:=zero _ _ h1
  have ez:=(zero _ _ h2).trans ey
  rw[hd x y hx rfl hy ey,hd y z hy ey hz ez,hd x z hx rfl hz ez]
  exact he.trans x y z ⟨hx,rfl⟩ ⟨hy,ey⟩ ⟨hz,ez⟩
def zaQ (S:List EV):Prop:=S.Pairwise fun x y=>zw x y<0
def lbE (e:EV):List EV→Nat
 | []=>0
 |x::r=>if zw x e<0 then lbE e r+1 else 0
def zb8 (e:EV):List EV→List EV
 | []=>[e]
 |x::r=>if zw x e<0 then x::zb8 e r else if zw x e=0 then x::r else e::x::r
def zgC (e:EV)(S:List EV):Prop:=∃x,S[lbE e S]? =some x∧zw x e=0
theorem znx (e:EV):∀S:List EV,lbE e S≤S.length
 | []=>Nat.le_refl _
 |x::r=>by
  have:=znx e r
  simp only [lbE]
  split<;>simp<;>omega
theorem zny (e:EV):∀(S:List EV) (j:Nat) (h:j<S.length),j<lbE e S→zw S[j] e<0
 | [],j,h,_=>by simp at h
 |x::r,j,h,k=>by
  simp only [lbE] at k
  split at k
  ·next hx=>
   cases j with
   |zero=>exact hx
   |succ j=>exact zny e r j (by simpa using h) (by omega)
  ·omega
theorem znz (e:EV)(he:OE e):∀(S:List EV),(∀x∈S,OE x)→zaQ S→∀(j:Nat) (h:j<S.length),lbE e S≤j→0≤zw S[j] e
 | [],_,_,j,h,_=>by simp at h
 |x::r,ho,hs,j,h,k=>by
  have hs:=List.pairwise_cons.1 hs
  simp only [lbE] at k
  split at k
  ·next hx=>
   cases j with
   |zero=>omega
   |succ j=>exact znz e he r (fun y hy=>ho y (by simp [hy])) hs.2 j (by simpa using h) (by omega)
  ·next hx=>
   cases j with
   |zero=>show 0≤zw x e;omega
   |succ j=>
    have hj:j<r.length:=by simpa using h
    have h1:=hs.1 _ (List.getElem_mem hj)
    show 0≤zw r[j] e
    apply Classical.byContradiction
    intro hn
    exact hx (zo.lt_le (ho x (by simp)) (ho _ (by simp [List.getElem_mem hj])) he h1 (by omega))
theorem zfu (e:EV):∀S:List EV,zgC e S→zb8 e S=S
 | [],⟨x,h,_⟩=>by simp at h
 |x::r,⟨y,h,hy⟩=>by
  simp only [lbE] at h
  simp only [zb8]
  split
  ·next hx=>rw[if_pos hx] at h;rw[zfu e r ⟨y,by simpa using h,hy⟩]
  ·next hx=>rw[if_neg hx] at h;simp at h;subst h;rw[if_pos hy]
theorem ziC (e:EV):∀S:List EV,¬zgC e S→zb8 e S=zS (lbE e S) e S
 | [],_=>by simp [zb8,lbE,zS]
 |x::r,hn=>by
  simp only [zb8]
  split
  ·next hx=>
   have h1:lbE e (x::r)=lbE e r+1:=by simp only [lbE,if_pos hx]
   rw[ziC e r fun ⟨y,h,hy⟩=>hn ⟨y,by rw[h1];simpa using h,hy⟩,h1]
   simp [zS]
  ·next hx=>
   have h1:lbE e (x::r)=0:=by simp only [lbE,if_neg hx]
   rw[if_neg fun h0=>hn ⟨x,by rw[h1];rfl,h0⟩,h1]
   simp [zS]
theorem zdI {e y:EV}:∀{S:List EV},y∈zb8 e S→y=e∨y∈S
 | [],h=>by simp [zb8] at h;exact .inl h
 |x::r,h=>by
  simp only [zb8] at h
  split at h
  ·rcases List.mem_cons.1 h with h|h
   ·exact .inr (by simp [h])
   ·rcases zdI h with h|h
    ·exact .inl h
    ·exact .inr (by simp [h])
  ·split at h
   ·exact .inr h
   ·rcases List.mem_cons.1 h with h|h
    ·exact .inl h
    ·exact .inr h
theorem zeJ (e:EV):∀S:List EV,(zb8 e S).length≤S.length+1
 | []=>by simp [zb8]
 |x::r=>by
  have:=zeJ e r
  simp only [zb8]
  split
  ·simp;omega
  ·split<;>simp
theorem zgD {e:EV}(he:OE e):∀{S:List EV},(∀x∈S,OE x)→zaQ S→zaQ (zb8 e S)
 | [],_,_=>by simp [zb8,zaQ]
 |x::r,ho,hs=>by
  have hs':=List.pairwise_cons.1 hs
  have hor:∀y∈r,OE y:=fun y hy=>ho y (by simp [hy])
  simp only [zb8]
  split
  ·next hx=>
   refine List.pairwise_cons.2 ⟨fun y hy=>?_,zgD he hor hs'.2⟩
   rcases zdI hy with h|h
   ·rw[h];exact hx
   ·exact hs'.1 y h
  ·next hx=>
   split
   ·exact hs
   ·next h0=>
    have ha:=zo.anti x e (ho x (by simp)) he
    refine List.pairwise_cons.2 ⟨fun y hy=>?_,hs⟩
    rcases List.mem_cons.1 hy with h|h
    ·rw[h];omega
    ·have:=hs'.1 y h
     exact zo.lt_le he (ho x (by simp)) (hor y h) (by omega) (by omega)
structure GoodE (e:EV):Prop where
 s:EVs e
 f:FitsE e
 o:OE e
theorem zld {S:List EV}{e:EV}(hs:zaQ S)(hS:∀x∈S,GoodE x)(he:GoodE e):Bound (S.map zX) (zX e) (lbE e S) where
 le:=by simpa using znx e S
 lo:=fun j h k=>by
  have hj:j<S.length:=by simpa using h
  rw[List.getElem_map,zaP _ _ (hS _ (List.getElem_mem hj)).f he.f]
  exact zny e S j hj k
 hi:=fun j h k=>by
  have hj:j<S.length:=by simpa using h
  rw[List.getElem_map,zaP _ _ (hS _ (List.getElem_mem hj)).f he.f]
  exact znz e he.o S (fun x hx=>(hS x hx).o) hs j hj k
theorem znA {S:List EV}{e:EV}(hS:∀x∈S,GoodE x)(he:GoodE e):znt (S.map zX) (zX e) (lbE e S)↔zgC e S:=by
 unfold znt zgC
 simp only [List.getElem?_map,Option.map_eq_some_iff]
 constructor
 ·rintro ⟨x,⟨y,hy,rfl⟩,h⟩
  exact ⟨y,hy,by rw[zaP _ _ (hS _ (List.mem_of_getElem? hy)).f he.f] at h;exact h⟩
 ·rintro ⟨y,hy,h⟩
  exact ⟨_,⟨y,hy,rfl⟩,by rw[zaP _ _ (hS _ (List.mem_of_getElem? hy)).f he.f];exact h⟩
theorem ze0 {α γ:Type}(f:α→γ)(p:Nat)(e:α)(S:List α):(zS p e S).map f=zS p (f e) (S.map f):=by unfold zS;simp [List.map_take,List.map_drop]
noncomputable def zgE:List LE→List LE→List LE
 |x::a,y::b=>if ZM x y<0 then x::zgE a (y::b) else if ZM y x<0 then zgE (x::a) b else zgE a b
 | [],_=>[]
 |a,[]=>a
termination_by a b=>a.length+b.length
theorem zor (a:List LE):zgE a []=a:=by cases a<;>simp [zgE]
theorem zos (b:List LE):zgE [] b= []:=by simp [zgE]
theorem zee (p q:LE)(hp:ZR p)(hq:ZR q):ACalls prog 197 [leA p,leA q] (fun r=>r=aV (.bool (decide (ZM p q<0)))):=by
 have h:=zct p q hp hq
 have four:∀e:LE,∃e0 e1 e2 e3,leA e= .agg [.d e0,.d e1,.d e2,.d e3]:=fun e=>by cases e<;>exact ⟨_,_,_,_,rfl⟩
 obtain ⟨p0,p1,p2,p3,hp'⟩:=four p
 obtain ⟨q0,q1,q2,q3,hq'⟩:=four q
 rw[hp',hq'] at h ⊢
 refine zf [] func197 (by kernel_rfl) rfl ntmps197 results197 (Nat.le_of_ble_eq_true (by kernel_rfl)) ?_;intro hok w0 S0
 clear hok
 (repeat' (first|(with_reducible first|refine zj (fun _=>?_) (fun _=>?_)|refine zi (fun _=>?_) (fun _=>?_)|refine zl (h) (by first|rfl|(simp -dsimp;done)) ?_|refine zk zb (by kernel_rfl) ?_|exact za rfl)|(simp -dsimp)));(all_goals try with_reducible refine za ?_)
theorem zrO (A:List LE)(hA:A.length≤9223372036854775807):ACalls prog 160 [.c (.d (.pt [zal A]))] (fun r=>r=aI A.length):=by
 refine zf [] func160 (by kernel_rfl) rfl ntmps160 results160 (Nat.le_of_ble_eq_true (by kernel_rfl)) ?_;intro hok w0 S0
 clear hok
 (repeat' (first|(with_reducible first|refine zj (fun _=>?_) (fun _=>?_)|refine zi (fun _=>?_) (fun _=>?_)|refine zk zb (by kernel_rfl) ?_|exact za rfl)|(simp -dsimp [hA])));(all_goals try with_reducible refine za ?_)
theorem zbl (e:LE):∃e0 e1 e2 e3,leD e= [e0,e1,e2,e3]∧leA e= .agg [.d e0,.d e1,.d e2,.d e3]:=by cases e<;>exact ⟨_,_,_,_,rfl,rfl⟩
theorem drop_cons {α:Type}{l:List α}{i:Nat}(h:i<l.length):l.drop i=l[i]::l.drop (i+1):=List.drop_eq_getElem_cons h
theorem zrP (w:World)(v:Value)(n:Nat)(cs ys:List Value)(ad:Addr)(c:Nat)(hown:w.ownsRow 0 233 5 v n cs)(hy:ys.length=5)(hc:∀j u,ys[j]? =some u→w.cell? (ad.add j)=some u)(h1:∀u∈ys,u.oneCell'=true)(hn:(n+1)*40≤140737488351232):
  Calls prog 229 #[v,.int .i64 n,.slice (some ad) 1 c] w (zay prog 233 5 w v n n cs ys):=by
 obtain ⟨i0,hi,hz0⟩:=Option.map_eq_some_iff.1 (show (prog.info? 233).map (fun i=>(i.zero,i.size,i.bytes))=some (some (.agg #[.pointer none,.pointer none,.pointer none,.pointer none,.pointer none]),5,40) from by kernel_rfl)
 simp only [Prod.mk.injEq] at hz0
 obtain ⟨v',w',hr,hown',hg,_,hat⟩:=run_append_own_at (P:=prog) w 0 218 218 233 i0 _ 5 40 underlying218 hi hz0.1 hz0.2.1 hz0.2.2 rfl (by omega) v n cs hown ad 1 c ys (by simpa using hy) hc h1 (by simp only [maxLen];omega) (by omega) (Nat.zero_le _)
 rw[←ziz (t':=217) underlying218 underlying217 hi] at hr
 have HR:=Lib.hid hr
 have HO:Hid (zay prog 233 5 w v n n cs ys (.returned v') w'):=by
  refine ⟨v',rfl,?_,hg,hat.imp id fun h=>⟨_,h,Nat.le_refl _,(hown'.lt _ h).2⟩⟩
  have e1:cs.take (n*5)=cs:=List.take_of_length_le (by rw[hown.1];exact Nat.le_refl _)
  have e2:cs.drop (n*5)= []:=List.drop_of_length_le (by rw[hown.1];exact Nat.le_refl _)
  rw[e1,e2,List.append_nil]
  exact hown'
 obtain ⟨A,cap,hv,hle⟩:∃A cap,v= .slice A n cap∧n≤cap:=by
  rcases hown.2 with ⟨h1,h2⟩|⟨g,cap,cur,h1,_,_,h2,_⟩
  ·exact ⟨none,0,by rw[h1,h2],by omega⟩
  ·exact ⟨_,cap,h1,h2⟩
 subst hv
 clear hr hown' hg hat hc h1
 have hn2:n≤9223372036854775807:=by omega
 have u1:=run_underlying (P:=prog) underlying218
 have u2:=run_underlying (P:=prog) underlying217
 rcases Nat.eq_or_lt_of_le hle with he|he
 ·subst he
  go_enter func229,ntmps229
  go_wp2_with (at_builtin;refine zaL HR.out rfl rfl rfl rfl ?_)
  go_ret
  exact HO.out
 ·have hne:¬cap=n:=by omega
  go_enter func229,ntmps229
  go_wp2_with (at_builtin;refine zaL HR.out rfl rfl rfl rfl ?_)
  go_ret
  exact HO.out
theorem zpF (w:World)(g cap n i:Nat)(cur:Array Value)(cs ys:List Value)(ad:Addr)(c:Nat)(hg:w.heap[g]? =some (.cells cur 233 (0,0)))(hcap:n+1≤cap)(hcm:cap≤maxLen)(hcs:cur.size=cap*5)(htake:cur.toList.take (n*5)=cs)(hcl:cs.length=n*5)(hi:i<n)
  (hy:ys.length=5) (hc:∀j u,ys[j]? =some u→w.cell? (ad.add j)=some u) (h1:∀u∈ys,u.oneCell'=true) (h1c:∀u∈cs,u.oneCell'=true) (hne:ad.block≠g):
  Calls prog 229 #[.slice (some ⟨g,0,none⟩) n cap,.int .i64 i,.slice (some ad) 1 c] w (zay prog 233 5 w (.slice (some ⟨g,0,none⟩) n cap) n i cs ys):=by
 have u1:=run_underlying (P:=prog) underlying218
 have u2:=run_underlying (P:=prog) underlying217
 have hn2:n≤9223372036854775806:=by unfold maxLen at hcm;omega
 have hcm2:cap≤9223372036854775807:=by unfold maxLen at hcm;omega
 have hz2:¬((i:Int)=(n:Int)):=by omega
 have hi2:i≤n:=by omega
 have hb2:¬(cap=i+1):=by omega
 have hb4:¬(cap=i):=by omega
 have hi3:(i:Int)≤(n:Int)+1:=by omega
 have hw1:IntKind.i64.wrap ((i:Int)+1)=(i:Int)+1:=by rw[IntKind.wrap_i64];omega
 have hw2:IntKind.i64.wrap ((n:Int)+1)=(n:Int)+1:=by rw[IntKind.wrap_i64];omega
 have htn:((i:Int)+1).toNat=i+1:=by omega
 have htn2:((n:Int)+1).toNat=n+1:=by omega
 have hroom:¬((cap:Int)<(n:Int)+1):=by omega
 have hb1:(0:Int)≤(i:Int)+1:=by omega
 have mixed:prog.follows .mixedOrders=true:=by kernel_rfl
 obtain ⟨u0,hu0⟩:∃u,ys[0]? =some u:=⟨_,List.getElem?_eq_getElem (by omega)⟩
 have hov:∀lb cb,(callFunc 244 #[.slice (some ad) 1 c,.slice (some ⟨g,(i+1)*5,none⟩) lb cb]).run prog w= .ok (.value (.bool false)) w:=fun lb cb=>by
  rw[run_callFunc_extern func244 (by kernel_rfl) (by kernel_rfl) (by kernel_rfl) (e:=Extern.SlicesOverlaps.overlaps #[217,217] #[4]) (by kernel_rfl),
   zeI w 217 4 233 underlying217 5 (fun _=>by first|rfl|kernel_rfl) ad ⟨g,(i+1)*5,none⟩ 1 c lb cb hne (by have:=hc 0 u0 hu0;simpa [Addr.add] using this) hg (by omega)]
  rfl
 have hi1:(i+1)*5≤n*5:=by omega
 have hdl:(cs.drop (i*5)).length=(n - i)*5:=by rw[List.length_drop,hcl,Nat.sub_mul]
 obtain ⟨c1,hc1⟩:∃c1,c1=(cur.toList.take ((i+1)*5)++cs.drop (i*5)++cur.toList.drop ((i+1)*5+(cs.drop (i*5)).length)).toArray:=⟨_,rfl⟩
 have hc1s:c1.size=cur.size:=by rw[hc1];simp [hcl];omega
 have hgd:w.drew.heap[g]? =some (.cells cur 233 (0,0)):=hg
 have hcsat:∀j u,cs[j]? =some u→w.cell? ⟨g,j,none⟩=some u:=fun j u hj=>by
  refine zh hg ?_
  rw[←htake,List.getElem?_take] at hj
  split at hj
  ·simpa using hj
  ·cases hj
 have hcp1:∀ty dc sc,(Builtin.copy_ #[218,218] ty #[.slice (some ⟨g,(i+1)*5,none⟩) (n - i) dc,.slice (some ⟨g,i*5,none⟩) (n+1 - i) sc]).run prog w.drew=(.ok (goInt (Nat.min (n+1 - i) (n - i))) (w.drew.setRow g c1)):=fun ty dc sc=>by
  rw[hc1]
  exact zaE w.drew _ _ ty 233 5 g ((i+1)*5) _ dc ⟨g,i*5,none⟩ _ sc cur _ (cs.drop (i*5)) underlying218 (by kernel_rfl) hgd (by rw[hdl];congr 1;simp only [Nat.min_def];split<;>omega)
   (fun j v hj=>by
    rw[List.getElem?_drop] at hj
    have:=hcsat _ v hj
    have e:(⟨g,i*5,none⟩:Addr).add j=⟨g,i*5+j,none⟩:=by unfold Addr.add;split<;>simp_all
    rw[e];exact this) (by rw[hdl,hcs];omega) (fun v hv=>h1c v (List.mem_of_mem_drop hv))
 obtain ⟨c2,hc2⟩:∃c2,c2=(c1.toList.take (i*5)++ys++c1.toList.drop (i*5+ys.length)).toArray:=⟨_,rfl⟩
 have hcp2:∀ty dc,(Builtin.copy_ #[218,217] ty #[.slice (some ⟨g,i*5,none⟩) (n+1 - i) dc,.slice (some ad) 1 c]).run prog (w.drew.setRow g c1)= .ok (goInt (Nat.min 1 (n+1 - i))) ((w.drew.setRow g c1).setRow g c2):=fun ty dc=>by
  rw[hc2]
  refine zaE (w.drew.setRow g c1) _ _ ty 233 5 g (i*5) _ dc ad 1 c c1 233 ys underlying218 (by kernel_rfl) (setRow_heap _ g cur c1 _ _ hgd) (by rw[hy];simp only [Nat.min_def];split<;>omega)
   (fun j v hj=>?_) (by rw[hy,hc1s,hcs];omega) h1
  rw[World.cell?_of_block (w:=w)]
  ·exact hc j v hj
  ·rw[zB];exact setRow_other w.drew g ad.block c1 hne
 have HO:Hid (zay prog 233 5 w (.slice (some ⟨g,0,none⟩) n cap) n i cs ys (.returned (.slice (some ⟨g,0,none⟩) (n+1) cap)) ((w.drew.setRow g c1).setRow g c2)):=by
  refine ⟨_,rfl,⟨?_,.inr ⟨g,cap,c2,rfl,Nat.zero_le _,setRow_heap _ g c1 c2 _ _ (setRow_heap _ g cur c1 _ _ hgd),hcap,hcm,?_,?_⟩⟩,?_,.inl rfl⟩
  ·simp only [List.length_append,List.length_take,hcl,hy,hdl];omega
  ·rw[hc2];simp [hy,hc1s];omega
  ·have e1:(i+1)*5=i*5+5:=by omega
   have e2:(n+1)*5=i*5+(n - i)*5+5:=by omega
   have e3:n*5=i*5+(n - i)*5:=by omega
   rw[hc2,hc1,e1,e2]
   rw[e3] at htake hcl
   exact zmh htake hcl (by omega) hy
  ·exact ⟨rfl,rfl,rfl,by simp only [World.setRow,Array.size_modify];exact Nat.le_refl _,fun k _ hk=>(setRow_other _ g k c2 (fun e=>hk (by simp [Value.ownBlock,e]))).trans (setRow_other w.drew g k c1 (fun e=>hk (by simp [Value.ownBlock,e])))⟩
 have HP1:=Lib.hid hcp1;have HP2:=Lib.hid hcp2
 clear hc h1 h1c hg htake hcl hcp1 hcp2 hc1 hc2 hc1s hcsat hgd hdl hi1
 go_enter func229,ntmps229
 go_wp2_with (simp only [hov])
 go_region_law_o (refine zea rfl _ _ 218 218 rfl (.slice (some ⟨g,(i+1)*5,none⟩) (n - i) (cap - (i+1))) (.slice (some ⟨g,i*5,none⟩) (n+1 - i) (cap - i)) (by simp [Act.eval,Act.put]) (by simp [Act.eval,Act.put]) (HP1.out 3 (cap - (i+1)) (cap - i)) ?_)
 go_wp2_with (refine zb6 (HP2.out _ _) rfl rfl rfl rfl ?_)
 go_ret
 exact HO.out
theorem zpG (w:World)(g cap n i:Nat)(cur:Array Value)(cs ys:List Value)(ad:Addr)(c:Nat)(hg:w.heap[g]? =some (.cells cur 233 (0,0)))(hnc:n≤cap)(hcap:cap<n+1)(hcm:cap≤maxLen)(hcs:cur.size=cap*5)(htake:cur.toList.take (n*5)=cs)(hcl:cs.length=n*5)(hi:i<n)(hbytes:(n+1)*40≤140737488351232)
  (hy:ys.length=5) (hc:∀j u,ys[j]? =some u→w.cell? (ad.add j)=some u) (h1:∀u∈ys,u.oneCell'=true) (h1c:∀u∈cs,u.oneCell'=true) (hne:ad.block≠g):
  Calls prog 229 #[.slice (some ⟨g,0,none⟩) n cap,.int .i64 i,.slice (some ad) 1 c] w (zay prog 233 5 w (.slice (some ⟨g,0,none⟩) n cap) n i cs ys):=by
 have u1:=run_underlying (P:=prog) underlying218
 have u2:=run_underlying (P:=prog) underlying217
 have mixed:prog.follows .mixedOrders=true:=by kernel_rfl
 obtain ⟨i0,hin,hz0⟩:=Option.map_eq_some_iff.1 (show (prog.info? 233).map (fun i=>(i.zero,i.size,i.bytes))=some (some (.agg #[.pointer none,.pointer none,.pointer none,.pointer none,.pointer none]),5,40) from by kernel_rfl)
 simp only [Prod.mk.injEq] at hz0
 have hn2:n≤9223372036854775806:=by omega
 have hz2:¬((i:Int)=(n:Int)):=by omega
 have hi2:i≤n:=by omega
 have hb4:¬(cap=i):=by omega
 have hi3:(i:Int)≤(n:Int)+1:=by omega
 have hw1:IntKind.i64.wrap ((i:Int)+1)=(i:Int)+1:=by rw[IntKind.wrap_i64];omega
 have hw2:IntKind.i64.wrap ((n:Int)+1)=(n:Int)+1:=by rw[IntKind.wrap_i64];omega
 have hw3:IntKind.i64.wrap ((n:Int)+1 - i)=(n:Int)+1 - i:=by rw[IntKind.wrap_i64];omega
 have htn:((i:Int)+1).toNat=i+1:=by omega
 have hroom:(cap:Int)<(n:Int)+1:=by omega
 have hic:i≤cap:=by omega
 have hb1:(0:Int)≤(i:Int)+1:=by omega
 have hkk:(n:Int)+1 - (i:Int)=((n+1 - i:Nat):Int):=by omega
 have hik:i+(n+1 - i)=n+1:=by omega
 have hdl:(cs.drop (i*5)).length=(n - i)*5:=by rw[List.length_drop,hcl,Nat.sub_mul]
 have hcsat:∀j u,cs[j]? =some u→w.cell? ⟨g,j,none⟩=some u:=fun j u hj=>by
  refine zh hg ?_
  rw[←htake,List.getElem?_take] at hj
  split at hj
  ·simpa using hj
  ·cases hj
 have hold:(Builtin.firstCells i0.size i (.slice (some ⟨g,0,none⟩) i cap)).run prog w.drew= .ok (cs.take (i*5)).toArray w.drew:=by
  rw[hz0.2.1]
  exact run_firstCells_some w.drew 5 i ⟨g,0,none⟩ i cap (cs.take (i*5)) (by rw[List.length_take,hcl];omega) (fun j v hj=>by
   rw[List.getElem?_take] at hj
   split at hj
   ·have e:(⟨g,0,none⟩:Addr).add j=⟨g,j,none⟩:=by unfold Addr.add;split<;>simp_all
    rw[e];exact hcsat j v hj
   ·cases hj)
 obtain ⟨G,hG⟩:∃G,G=grownCap w (n+1) cap 233:=⟨_,rfl⟩
 obtain ⟨ROW,hROW⟩:∃ROW:Array Value,ROW=(cs.take (i*5)).toArray++Builtin.zeroCells (Value.agg #[.pointer none,.pointer none,.pointer none,.pointer none,.pointer none]).cells (n+1 - i)++Builtin.zeroCells (Value.agg #[.pointer none,.pointer none,.pointer none,.pointer none,.pointer none]).cells (G - (n+1)):=⟨_,rfl⟩
 have hGn:n+1≤G:=by rw[hG];exact grownCap_ge w _ _ _
 have hGm:G≤maxLen:=by rw[hG];exact grownCap_le_maxLen w (n+1) cap 233 (by simp only [maxLen];omega)
 have hG63:G≤9223372036854775807:=by unfold maxLen at hGm;omega
 have hrz:∀ty,(Builtin.append_ #[218,3] ty #[.slice (some ⟨g,0,none⟩) i cap,.int .i64 ((n:Int)+1 - (i:Int))]).run prog w=
   .ok (.slice (some ⟨w.heap.size,0,none⟩) (n+1) G) (w.drew.alloc (.cells ROW 233)):=fun ty=>by
  have h:=Go.Lib.run_append_grow_zeros w 218 3 ty 233 i0 _ .i64 .i64 underlying218 underlying3 hin hz0.1 (some ⟨g,0,none⟩) i cap (cs.take (i*5)) hold (n+1 - i) (by omega) (by rw[hz0.2.1];omega) (by omega) (by omega) (by rw[hz0.2.2];omega) (by rw[hz0.2.2,hik];exact growslice_fits (by omega) (by omega))
  rw[hik] at h
  rw[hkk,hROW,hG]
  exact h
 have hRs:ROW.size=G*5:=by
  rw[hROW]
  simp [Builtin.zeroCells,Value.cells,hcl]
  omega
 have hRt:ROW.toList.take (i*5)=cs.take (i*5):=by
  rw[hROW]
  simp only [Array.toList_append]
  rw[List.append_assoc]
  exact List.take_left' (by rw[List.length_take,hcl];omega)
 obtain ⟨W1,hW1⟩:∃W1,W1=w.drew.alloc (.cells ROW 233):=⟨_,rfl⟩
 rw[←hW1] at hrz
 have hB1:W1.heap[w.heap.size]? =some (.cells ROW 233 (0,0)):=by rw[hW1];exact heap_alloc_new w.drew _
 have hOld:∀k,k<w.heap.size→W1.heap[k]? =w.heap[k]? :=fun k hk=>by rw[hW1];exact heap_alloc_old w.drew _ hk
 have hgw:g<w.heap.size:=(Array.getElem?_eq_some_iff.1 hg).1
 obtain ⟨u0,hu0⟩:∃u,ys[0]? =some u:=⟨_,List.getElem?_eq_getElem (by omega)⟩
 have haw:ad.block<w.heap.size:=by have:=zdO (hc 0 u0 hu0);rwa[zB] at this
 obtain ⟨c1,hc1⟩:∃c1,c1=(ROW.toList.take (i*5)++ys++ROW.toList.drop (i*5+ys.length)).toArray:=⟨_,rfl⟩
 have hc1s:c1.size=ROW.size:=by rw[hc1];simp [hy];omega
 have hcp1:∀ty dc,(Builtin.copy_ #[218,217] ty #[.slice (some ⟨w.heap.size,i*5,none⟩) (n+1 - i) dc,.slice (some ad) 1 c]).run prog W1= .ok (goInt (Nat.min 1 (n+1 - i))) (W1.setRow w.heap.size c1):=fun ty dc=>by
  rw[hc1]
  exact zaE W1 _ _ ty 233 5 w.heap.size (i*5) _ dc ad 1 c ROW 233 ys underlying218 (by kernel_rfl) hB1 (by rw[hy];simp only [Nat.min_def];split<;>omega)
   (fun j v hj=>(World.cell?_of_block (by rw[zB];exact hOld _ haw)).trans (hc j v hj)) (by rw[hy,hRs];omega) h1
 obtain ⟨c2,hc2⟩:∃c2,c2=(c1.toList.take ((i+1)*5)++cs.drop (i*5)++c1.toList.drop ((i+1)*5+(cs.drop (i*5)).length)).toArray:=⟨_,rfl⟩
 have hB2:(W1.setRow w.heap.size c1).drew.heap[w.heap.size]? =some (.cells c1 233 (0,0)):=setRow_heap W1 w.heap.size ROW c1 _ _ hB1
 have hcp2:∀ty dc sc,(Builtin.copy_ #[218,218] ty #[.slice (some ⟨w.heap.size,(i+1)*5,none⟩) (n - i) dc,.slice (some ⟨g,i*5,none⟩) (n - i) sc]).run prog (W1.setRow w.heap.size c1).drew= .ok (goInt (Nat.min (n - i) (n - i))) ((W1.setRow w.heap.size c1).drew.setRow w.heap.size c2):=fun ty dc sc=>by
  rw[hc2]
  refine zaE (W1.setRow w.heap.size c1).drew _ _ ty 233 5 w.heap.size ((i+1)*5) _ dc ⟨g,i*5,none⟩ _ sc c1 233 (cs.drop (i*5)) underlying218 (by kernel_rfl) hB2 (by rw[hdl];congr 1;simp [Nat.min_def])
   (fun j v hj=>?_) (by rw[hdl,hc1s,hRs];omega) (fun v hv=>h1c v (List.mem_of_mem_drop hv))
  rw[List.getElem?_drop] at hj
  have:=hcsat _ v hj
  have e:(⟨g,i*5,none⟩:Addr).add j=⟨g,i*5+j,none⟩:=by unfold Addr.add;split<;>simp_all
  rw[e]
  refine (World.cell?_of_block ?_).trans this
  exact (setRow_other W1 w.heap.size g c1 (by omega)).trans (hOld g hgw)
 have HO:Hid (zay prog 233 5 w (.slice (some ⟨g,0,none⟩) n cap) n i cs ys (.returned (.slice (some ⟨w.heap.size,0,none⟩) (n+1) G)) ((W1.setRow w.heap.size c1).drew.setRow w.heap.size c2)):=by
  have hsz:W1.heap.size=w.heap.size+1:=by rw[hW1];exact zz w.drew _
  refine ⟨_,rfl,⟨?_,.inr ⟨w.heap.size,G,c2,rfl,Nat.zero_le _,setRow_heap _ w.heap.size c1 c2 _ _ hB2,hGn,hGm,?_,?_⟩⟩,⟨?_,?_,?_,?_,fun k hk _=>?_⟩,.inr ⟨w.heap.size,rfl,Nat.le_refl _,?_⟩⟩
  ·simp only [List.length_append,List.length_take,hcl,hy,hdl];omega
  ·rw[hc2];simp [hcl,hc1s,hRs];omega
  ·have e1:(i+1)*5=i*5+5:=by omega
   have e2:(n+1)*5=i*5+(n - i)*5+5:=by omega
   have e3:n*5=i*5+(n - i)*5:=by omega
   rw[hc2,e1,e2]
   rw[e3] at hcl
   exact zj3 (row:=ROW.toList) hRt (by simp [hRs];omega) hcl hy (by rw[hc1])
  ·rw[hW1];rfl
  ·rw[hW1];rfl
  ·rw[hW1];rfl
  ·show w.heap.size≤(World.setRow _ _ _).heap.size
   simp only [World.setRow,World.drew,Array.size_modify,hsz];omega
  ·exact ((setRow_other _ w.heap.size k c2 (by omega)).trans (setRow_other W1 w.heap.size k c1 (by omega))).trans (hOld k hk)
  ·show w.heap.size<(World.setRow _ _ _).heap.size
   simp only [World.setRow,World.drew,Array.size_modify,hsz];omega
 have HRZ:=Lib.hid hrz;have HP1:=Lib.hid hcp1;have HP2:=Lib.hid hcp2
 have hGi:¬(G=i):=by omega
 have hGi1:¬(G=i+1):=by omega
 clear hc h1 h1c hg htake hcl hcp1 hcp2 hc1 hc2 hc1s hcsat hdl hrz hRs hRt hROW hG hold hB1 hB2 hOld hW1 hin hz0 hkk hik
 go_enter func229,ntmps229
 go_wp2_with (first
  |(at_builtin;refine zaL (HRZ.out _) rfl rfl rfl rfl ?_)
  |(refine zb6 (HP1.out _ _) rfl rfl rfl rfl ?_))
 go_region_law_o (refine zea rfl _ _ 218 218 rfl (.slice (some ⟨w.heap.size,(i+1)*5,none⟩) (n - i) (G - (i+1))) (.slice (some ⟨g,i*5,none⟩) (n - i) (cap - i)) (by simp [Act.eval,Act.put]) (by simp [Act.eval,Act.put]) (HP2.out 3 (G - (i+1)) (cap - i)) ?_)
 go_wp2
 go_ret
 exact HO.out
theorem znB (w:World)(v:Value)(n i:Nat)(cs ys:List Value)(ad:Addr)(c:Nat)(hown:w.ownsRow 0 233 5 v n cs)(hi:i≤n)(hy:ys.length=5)(hc:∀j u,ys[j]? =some u→w.cell? (ad.add j)=some u)(h1:∀u∈ys,u.oneCell'=true)(h1c:∀u∈cs,u.oneCell'=true)(hne:v.ownBlock≠some ad.block)(hn:(n+1)*40≤140737488351232):
  Calls prog 229 #[v,.int .i64 i,.slice (some ad) 1 c] w (zay prog 233 5 w v n i cs ys):=by
 by_cases e:i=n
 ·subst e;exact zrP w v i cs ys ad c hown hy hc h1 hn
 ·obtain ⟨g,cap,cur,rfl,h2,h3,h4,h5,h6⟩:=World.ownsRow.one hown (by omega)
  have hne':ad.block≠g:=fun h=>hne (by rw[h];rfl)
  by_cases hr:n+1≤cap
  ·exact zpF w g cap n i cur cs ys ad c h2 hr h4 h5 h6 hown.1 (by omega) hy hc h1 h1c hne'
  ·exact zpG w g cap n i cur cs ys ad c h2 h3 (by omega) h4 h5 h6 hown.1 (by omega) hn hy hc h1 h1c hne'
mutual
inductive PS where
 |mk (ms:List EV) (ks:PK)
inductive PK where
 |nil
 |cons (e:EV) (s:PS) (r:PK)
end
def PS.ms:PS→List EV| .mk ms _=>ms
def PS.ks:PS→PK| .mk _ ks=>ks
def PS.empty:PS:=.mk [] .nil
def PK.es:PK→List EV
 | .nil=>[]
 | .cons e _ r=>e::r.es
def PK.ss:PK→List PS
 | .nil=>[]
 | .cons _ s r=>s::r.ss
theorem PK.ss_length:∀ks:PK,ks.ss.length=ks.es.length
 | .nil=>rfl
 | .cons e s r=>by simp only [PK.ss,PK.es,List.length_cons,PK.ss_length r]
def ZW (e:EV):PK→PS
 | .nil=>.empty
 | .cons x s r=>if zw x e<0 then ZW e r else if zw x e=0 then s else .empty
def zbA (e:EV)(t:PS):PK→PK
 | .nil=>.cons e t .nil
 | .cons x s r=>if zw x e<0 then .cons x s (zbA e t r) else if zw x e=0 then .cons x t r else .cons e t (.cons x s r)
def PS.ins:PS→List EV→PS
 |s,[]=>s
 | .mk ms ks,[e]=>.mk (zb8 e ms) ks
 | .mk ms ks,e::f::p=>.mk ms (zbA e ((ZW e ks).ins (f::p)) ks)
def mkP (l:List (List EV)):PS:=l.foldl (fun s p=>s.ins p) .empty
@[simp] theorem ztR:mkP []= .empty:=rfl
theorem zdJ (l:List (List EV))(p:List EV):mkP (l++ [p])=(mkP l).ins p:=by simp [mkP]
abbrev tPE:TypeId:=101
abbrev tSN:TypeId:=233
abbrev ziD:TypeId:=222
abbrev eD (e:EV):List D:=leD (zX e)
mutual
def stP:PS→ST
 | .mk ms ks=>.mk tPE tSN (ms.map eD) (skP ks)
def skP:PK→SK
 | .nil=>.nil
 | .cons e s r=>.cons (eD e) (stP s) (skP r)
end
abbrev psD (s:PS):List D:=zkx (stP s)
abbrev pkD (k:PK):List (List D):=nodeD (skP k)
theorem zcI (ms:List EV)(ks:PK):psD (.mk ms ks)= [.sl tPE (ms.map eD),.sl tSN (pkD ks)]:=by simp only [psD,stP,zkx]
theorem zhn:pkD .nil= []:=by simp only [pkD,skP,nodeD]
theorem zeK (e:EV)(s:PS)(r:PK):pkD (.cons e s r)=(eD e++ [.pt (psD s)])::pkD r:=by simp only [pkD,skP,nodeD]
theorem zc9:∀k:PK,(pkD k).length=k.es.length
 | .nil=>by rw[zhn];rfl
 | .cons e s r=>by rw[zeK];simp only [List.length_cons,PK.es,zc9 r]
mutual
def OkS (N:Nat):PS→Prop
 | .mk ms ks=>(∀e∈ms,GoodE e)∧zaQ ms∧ms.length≤N∧(∀e∈ks.es,GoodE e)∧zaQ ks.es∧ks.es.length≤N∧OkK N ks
def OkK (N:Nat):PK→Prop
 | .nil=>True
 | .cons _ s r=>OkS N s∧OkK N r
end
theorem zgF (N:Nat):OkS N .empty:=by simp [PS.empty,OkS,OkK,PK.es,zaQ]
theorem OkK.all {N:Nat}:∀{k:PK},OkK N k→∀s∈k.ss,OkS N s
 | .nil,_,s,h=>by simp [PK.ss] at h
 | .cons e t r,h,s,hs=>by
  simp only [OkK] at h
  simp only [PK.ss] at hs
  rcases List.mem_cons.1 hs with rfl|hs
  ·exact h.1
  ·exact h.2.all s hs
mutual
theorem OkS.mono {N M:Nat}(h:N≤M):∀{s:PS},OkS N s→OkS M s
 | .mk ms ks,k=>by
  simp only [OkS] at k ⊢
  exact ⟨k.1,k.2.1,by omega,k.2.2.2.1,k.2.2.2.2.1,by omega,OkK.mono h k.2.2.2.2.2.2⟩
theorem OkK.mono {N M:Nat}(h:N≤M):∀{s:PK},OkK N s→OkK M s
 | .nil,_=>by simp only [OkK]
 | .cons e s r,k=>by
  simp only [OkK] at k ⊢
  exact ⟨OkS.mono h k.1,OkK.mono h k.2⟩
end
theorem zef {N:Nat}(e:EV):∀{k:PK},OkK N k→OkS N (ZW e k)
 | .nil,_=>zgF N
 | .cons x s r,h=>by
  simp only [OkK] at h
  simp only [ZW]
  split
  ·exact zef e h.2
  ·split
   ·exact h.1
   ·exact zgF N
theorem zot {N:Nat}(e:EV){t:PS}(ht:OkS N t):∀{k:PK},OkK N k→OkK N (zbA e t k)
 | .nil,_=>by simp only [zbA,OkK];exact ⟨ht,trivial⟩
 | .cons x s r,h=>by
  simp only [OkK] at h
  simp only [zbA]
  split
  ·simp only [OkK];exact ⟨h.1,zot e ht h.2⟩
  ·split
   ·simp only [OkK];exact ⟨ht,h.2⟩
   ·simp only [OkK];exact ⟨ht,h⟩
theorem zou (e:EV)(t:PS):∀k:PK,(zbA e t k).es=zb8 e k.es
 | .nil=>by simp only [zbA,PK.es,zb8]
 | .cons x s r=>by
  simp only [zbA,PK.es,zb8]
  split
  ·simp only [PK.es,zou e t r]
  ·split<;>simp only [PK.es]
theorem zov (e:EV):∀{k:PK} {x:EV},k.es[lbE e k.es]? =some x→zw x e=0→k.ss[lbE e k.es]? =some (ZW e k)
 | .nil,x,h,_=>by simp [PK.es] at h
 | .cons y s r,x,h,hx=>by
  simp only [PK.es,lbE] at h
  simp only [PK.es,PK.ss,lbE,ZW]
  split
  ·next hy=>rw[if_pos hy] at h;simp only [List.getElem?_cons_succ] at h ⊢;exact zov e h hx
  ·next hy=>rw[if_neg hy] at h;simp at h;subst h;rw[if_pos hx];rfl
theorem zfv (e:EV)(t:PS):∀{k:PK},zgC e k.es→(zbA e t k).es=k.es∧(zbA e t k).ss=k.ss.set (lbE e k.es) t
 | .nil,⟨x,h,_⟩=>by simp [PK.es] at h
 | .cons y s r,⟨x,h,hx⟩=>by
  simp only [PK.es,lbE] at h
  simp only [PK.es,PK.ss,lbE,zbA]
  split
  ·next hy=>
   rw[if_pos hy] at h
   simp only [List.getElem?_cons_succ] at h
   obtain ⟨h1,h2⟩:=zfv e t (k:=r) ⟨x,h,hx⟩
   exact ⟨by simp only [PK.es,h1],by simp only [PK.ss,h2,List.set_cons_succ]⟩
  ·next hy=>
   rw[if_neg hy] at h;simp at h;subst h
   rw[if_pos hx]
   exact ⟨rfl,rfl⟩
theorem ziE (e:EV)(t:PS):∀{k:PK},¬zgC e k.es→(zbA e t k).es=zS (lbE e k.es) e k.es∧(zbA e t k).ss=zS (lbE e k.es) t k.ss
 | .nil,_=>by simp [zbA,PK.es,PK.ss,lbE,zS]
 | .cons y s r,hn=>by
  simp only [PK.es,PK.ss,zbA]
  split
  ·next hy=>
   have h1:lbE e (y::r.es)=lbE e r.es+1:=by simp only [lbE,if_pos hy]
   obtain ⟨h2,h3⟩:=ziE e t (k:=r) fun ⟨x,h,hx⟩=>hn ⟨x,by simp only [PK.es];rw[h1];simpa using h,hx⟩
   rw[h1]
   exact ⟨by simp only [PK.es,h2];simp [zS],by simp only [PK.ss,h3];simp [zS]⟩
  ·next hy=>
   have h1:lbE e (y::r.es)=0:=by simp only [lbE,if_neg hy]
   rw[if_neg fun h0=>hn ⟨y,by simp only [PK.es];rw[h1];rfl,h0⟩,h1]
   exact ⟨by simp [PK.es,zS],by simp [PK.ss,zS]⟩
theorem zmn (e:EV):∀{k:PK},¬zgC e k.es→ZW e k= .empty
 | .nil,_=>rfl
 | .cons y s r,hn=>by
  simp only [ZW]
  split
  ·next hy=>
   have h1:lbE e (y::r.es)=lbE e r.es+1:=by simp only [lbE,if_pos hy]
   exact zmn e fun ⟨x,h,hx⟩=>hn ⟨x,by simp only [PK.es];rw[h1];simpa using h,hx⟩
  ·next hy=>
   have h1:lbE e (y::r.es)=0:=by simp only [lbE,if_neg hy]
   rw[if_neg fun h0=>hn ⟨y,by simp only [PK.es];rw[h1];rfl,h0⟩]
theorem PS.ins_ok {N:Nat}:∀(p:List EV) {s:PS},OkS N s→(∀e∈p,GoodE e)→OkS (N+1) (s.ins p)
 | [],s,h,_=>by
  have e:s.ins []=s:=by cases s;simp only [PS.ins]
  rw[e];exact h.mono (by omega)
 | [e],.mk ms ks,h,hp=>by
  have he:=hp e (by simp)
  simp only [OkS] at h
  simp only [PS.ins,OkS]
  refine ⟨fun x hx=>?_,zgD he.o (fun x hx=>(h.1 x hx).o) h.2.1,?_,h.2.2.2.1,h.2.2.2.2.1,by omega,h.2.2.2.2.2.2.mono (by omega)⟩
  ·rcases zdI hx with rfl|hx
   ·exact he
   ·exact h.1 x hx
  ·have:=zeJ e ms;omega
 |e::f::p,.mk ms ks,h,hp=>by
  have he:=hp e (by simp)
  simp only [OkS] at h
  simp only [PS.ins,OkS,zou]
  refine ⟨h.1,h.2.1,by omega,fun x hx=>?_,zgD he.o (fun x hx=>(h.2.2.2.1 x hx).o) h.2.2.2.2.1,?_,zot e (PS.ins_ok (f::p) (zef e h.2.2.2.2.2.2) fun x hx=>hp x (List.mem_cons_of_mem _ hx)) (h.2.2.2.2.2.2.mono (by omega))⟩
  ·rcases zdI hx with rfl|hx
   ·exact he
   ·exact h.2.2.2.1 x hx
  ·have:=zeJ e ks.es;omega
theorem zfw:∀(n:Nat) (l:List (List EV)),l.length=n→(∀p∈l,∀e∈p,GoodE e)→OkS l.length (mkP l)
 |0,l,h,_=>by cases l with|nil=>exact zgF _|cons _ _=>simp at h
 |n+1,l,h,hg=>by
  obtain ⟨m,p,rfl⟩:∃m p,l=m++ [p]:=⟨l.dropLast,l.getLast (by intro h0;rw[h0] at h;simp at h),(List.dropLast_concat_getLast _).symm⟩
  have:=zfw n m (by simpa using h) fun q hq=>hg q (by simp [hq])
  rw[zdJ,List.length_append]
  exact PS.ins_ok p this (hg p (by simp))
def SK.cs:SK→List (List D)
 | .nil=>[]
 | .cons c _ r=>c::r.cs
def SK.ts:SK→List ST
 | .nil=>[]
 | .cons _ s r=>s::r.ts
abbrev ptB (b:Nat):D:=.v (.pointer (some ⟨b,0,none⟩))
theorem zda:∀(k:SK) (bs:List Nat),zaN k bs=List.zipWith (fun c b=>c++ [ptB b]) k.cs bs
 | .nil,bs=>by cases bs<;>simp [zaN,SK.cs]
 | .cons c s r,[]=>by simp [zaN,SK.cs]
 | .cons c s r,b::bs=>by simp [zaN,SK.cs,zda r bs]
theorem zfx:∀k:PK,(skP k).cs=k.es.map eD
 | .nil=>by simp only [skP,SK.cs,PK.es,List.map_nil]
 | .cons e s r=>by simp only [skP,SK.cs,PK.es,List.map_cons,zfx r]
theorem zeg:∀k:PK,(skP k).ts=k.ss.map stP
 | .nil=>by simp only [skP,SK.ts,PK.ss,List.map_nil]
 | .cons e s r=>by simp only [skP,SK.ts,PK.ss,List.map_cons,zeg r]
section
variable {P:Program} {S S':Nat→Prop} {w w':World}
def Kids (P:Program)(S:Nat→Prop)(w:World)(ts:List ST)(bs:List Nat)(FS:List (List Nat)):Prop:=
 bs.length=ts.length∧FS.length=ts.length∧∀(i:Nat) (t:ST) (b:Nat) (F:List Nat),ts[i]? =some t→bs[i]? =some b→FS[i]? =some F→HasS P S w t b F
theorem zeL:∀(k:SK) (bs G:List Nat),HasK P S w k bs G↔∃FS:List (List Nat),Kids P S w k.ts bs FS∧G=FS.flatten
 | .nil,bs,G=>by
  simp only [HasK,SK.ts,Kids]
  constructor
  ·rintro ⟨rfl,rfl⟩;exact ⟨[],⟨rfl,rfl,fun i t b F h=>by simp at h⟩,rfl⟩
  ·rintro ⟨FS,⟨h1,h2,_⟩,rfl⟩
   have e1:bs= []:=List.eq_nil_of_length_eq_zero h1
   have e2:FS= []:=List.eq_nil_of_length_eq_zero h2
   subst e1;subst e2;exact ⟨rfl,rfl⟩
 | .cons c s r,bs,G=>by
  simp only [HasK,SK.ts]
  constructor
  ·rintro ⟨b,bs',F1,F2,rfl,h1,h2,rfl⟩
   obtain ⟨FS,⟨h3,h4,h5⟩,rfl⟩:=(zeL r bs' F2).1 h2
   refine ⟨F1::FS,⟨by simp [h3],by simp [h4],fun i t b' F ht hb hF=>?_⟩,by simp⟩
   cases i with
   |zero=>simp at ht hb hF;subst ht;subst hb;subst hF;exact h1
   |succ i=>simp at ht hb hF;exact h5 i t b' F ht hb hF
  ·rintro ⟨FS,⟨h3,h4,h5⟩,rfl⟩
   match bs,FS,h3,h4 with
   |b::bs,F::FS,h3,h4=>
    refine ⟨b,bs,F,FS.flatten,rfl,h5 0 s b F rfl rfl rfl,(zeL r bs _).2 ⟨FS,⟨by simpa using h3,by simpa using h4,fun i t b' F' ht hb hF=>h5 (i+1) t b' F' (by simpa using ht) (by simpa using hb) (by simpa using hF)⟩,rfl⟩,by simp⟩
mutual
theorem HasS.blocks:∀(t:ST) {b:Nat} {F:List Nat},HasS P S w t b F→∀x∈F,x<w.heap.size
 | .mk tP tN ms ks,b,F,h=>by
  simp only [HasS] at h
  obtain ⟨vm,vc,T,bs,G,h1,h2,h3,h4,rfl,_⟩:=h
  intro x hx
  simp only [List.mem_cons,List.mem_append,Option.mem_toList] at hx
  rcases hx with rfl|hx|hx|hx
  ·exact (Array.getElem?_eq_some_iff.1 h1).1
  ·exact h2.row_lt hx
  ·exact h3.row_lt hx
  ·exact HasK.blocks ks h4 x hx
theorem HasK.blocks:∀(ks:SK) {bs G:List Nat},HasK P S w ks bs G→∀x∈G,x<w.heap.size
 | .nil,bs,G,h=>by
  simp only [HasK] at h
  obtain ⟨rfl,rfl⟩:=h
  intro x hx;cases hx
 | .cons c s r,bs,G,h=>by
  simp only [HasK] at h
  obtain ⟨b,bs',F1,F2,rfl,h2,h3,rfl⟩:=h
  intro x hx
  rcases List.mem_append.1 hx with hx|hx
  ·exact HasS.blocks s h2 x hx
  ·exact HasK.blocks r h3 x hx
end
theorem HasS.nodup:∀(t:ST) {b:Nat} {F:List Nat},HasS P S w t b F→F.Nodup
 | .mk tP tN ms ks,b,F,h=>by
  simp only [HasS] at h
  obtain ⟨vm,vc,T,bs,G,h1,h2,h3,h4,rfl,h5,_⟩:=h
  exact h5
theorem Kids.frame {ts:List ST}{bs:List Nat}{FS:List (List Nat)}(h:Kids P S w ts bs FS)(e:Same S w w')(hF:∀x∈FS.flatten,w'.heap[x]? =w.heap[x]?)(hS:∀x,S x→S' x):Kids P S' w' ts bs FS:=
 ⟨h.1,h.2.1,fun i t b F ht hb hFi=>(h.2.2 i t b F ht hb hFi).frame t e (fun x hx=>hF x (List.mem_flatten.2 ⟨F,List.mem_of_getElem? hFi,hx⟩)) hS⟩
theorem Kids.set {ts:List ST}{bs:List Nat}{FS:List (List Nat)}(h:Kids P S w ts bs FS){i:Nat}{t:ST}{b:Nat}{F:List Nat}(hb:bs[i]? =some b)(ht:HasS P S w t b F):Kids P S w (ts.set i t) bs (FS.set i F):=by
 refine ⟨by simp [h.1],by simp [h.2.1],fun j t' b' F' h1 h2 h3=>?_⟩
 by_cases e:i=j
 ·subst e
  rw[hb] at h2;cases h2
  have hl:=(List.getElem?_eq_some_iff.1 hb).1
  rw[List.getElem?_set_self (by rw[←h.1];exact hl)] at h1
  rw[List.getElem?_set_self (by rw[h.2.1,←h.1];exact hl)] at h3
  cases h1;cases h3;exact ht
 ·rw[List.getElem?_set_ne e] at h1 h3
  exact h.2.2 j t' b' F' h1 h2 h3
theorem zpH {α:Type}{i:Nat}{y:α}{xs:List α}(hi:i≤xs.length)(j:Nat):(zS i y xs)[j]? =if j<i then xs[j]? else if j=i then some y else xs[j - 1]? :=by
 unfold zS
 by_cases h1:j<i
 ·rw[if_pos h1,List.getElem?_append_left (by rw[List.length_take];omega),List.getElem?_take,if_pos h1]
 ·rw[if_neg h1,List.getElem?_append_right (by rw[List.length_take];omega),List.length_take,Nat.min_eq_left hi]
  by_cases h2:j=i
  ·subst h2;simp
  ·rw[if_neg h2]
   obtain ⟨k,hk⟩:∃k,j - i=k+1:=⟨j - i - 1,by omega⟩
   rw[hk,List.getElem?_cons_succ,List.getElem?_drop]
   congr 1;omega
theorem Kids.ins {ts:List ST}{bs:List Nat}{FS:List (List Nat)}(h:Kids P S w ts bs FS){i:Nat}(hi:i≤ts.length){t:ST}{b:Nat}{F:List Nat}(ht:HasS P S w t b F):Kids P S w (zS i t ts) (zS i b bs) (zS i F FS):=by
 obtain ⟨h0,h1,h2⟩:=h
 refine ⟨by simp [ZV,h0],by simp [ZV,h1],fun j t' b' F' k1 k2 k3=>?_⟩
 rw[zpH (by omega)] at k1 k2 k3
 by_cases e1:j<i
 ·rw[if_pos e1] at k1 k2 k3;exact h2 j t' b' F' k1 k2 k3
 ·rw[if_neg e1] at k1 k2 k3
  by_cases e2:j=i
  ·rw[if_pos e2] at k1 k2 k3;cases k1;cases k2;cases k3;exact ht
  ·rw[if_neg e2] at k1 k2 k3;exact h2 _ t' b' F' k1 k2 k3
theorem zjc {α β γ:Type}(f:α→β→γ){i:Nat}{a:α}{b:β}{xs:List α}{ys:List β}(hl:xs.length=ys.length):List.zipWith f (zS i a xs) (zS i b ys)=zS i (f a b) (List.zipWith f xs ys):=by
 unfold zS
 rw[List.zipWith_append (by simp [hl]),List.zipWith_cons_cons,List.take_zipWith,List.drop_zipWith]
theorem zci {α:Type}{i:Nat}{y x:α}{xs:List α}:x∈zS i y xs↔x=y∨x∈xs:=by
 unfold zS
 rw[List.mem_append,List.mem_cons]
 constructor
 ·rintro (h|h|h)
  ·exact .inr (List.mem_of_mem_take h)
  ·exact .inl h
  ·exact .inr (List.mem_of_mem_drop h)
 ·rintro (h|h)
  ·exact .inr (.inl h)
  ·rw[←List.take_append_drop i xs] at h
   rcases List.mem_append.1 h with h|h
   ·exact .inl h
   ·exact .inr (.inr h)
theorem znC {α:Type}(i:Nat)(y:α)(xs:List α):(zS i y xs).Perm (y::xs):=by
 unfold zS
 refine List.perm_middle.trans ?_
 rw[List.take_append_drop]
theorem zpI {A:List Nat}{FS:List (List Nat)}{i:Nat}{F F':List Nat}{m:Nat}(h:(A++FS.flatten).Nodup)(hF:FS[i]? =some F)(hF':F'.Nodup)(hlt:∀x∈A++FS.flatten,x<m)(hn:∀x∈F',x∈F∨m≤x):(A++(FS.set i F').flatten).Nodup:=by
 obtain ⟨hi,rfl⟩:=List.getElem?_eq_some_iff.1 hF
 have e1:FS=FS.take i++FS[i]::FS.drop (i+1):=by rw[←List.drop_eq_getElem_cons hi,List.take_append_drop]
 have e2:FS.set i F'=FS.take i++F'::FS.drop (i+1):=List.set_eq_take_append_cons_drop.trans (if_pos hi)
 rw[e2]
 rw[e1] at h hlt
 generalize FS[i]=F at h hlt hn
 generalize FS.take i=X at h hlt ⊢
 generalize FS.drop (i+1)=Y at h hlt ⊢
 simp only [List.flatten_append,List.flatten_cons] at h hlt ⊢
 have p1:(A++(X.flatten++(F++Y.flatten))).Perm (F++(A++(X.flatten++Y.flatten))):=by
  refine (List.Perm.append_left A ((List.perm_append_comm_assoc ..))).trans ?_
  exact List.perm_append_comm_assoc ..
 have p2:(A++(X.flatten++(F'++Y.flatten))).Perm (F'++(A++(X.flatten++Y.flatten))):=by
  refine (List.Perm.append_left A ((List.perm_append_comm_assoc ..))).trans ?_
  exact List.perm_append_comm_assoc ..
 rw[p1.nodup_iff,List.nodup_append] at h
 rw[p2.nodup_iff,List.nodup_append]
 refine ⟨hF',h.2.1,fun x hx y hy e=>?_⟩
 subst e
 rcases hn x hx with hx'|hx'
 ·exact h.2.2 x hx' x hy rfl
 ·have:=hlt x (p1.mem_iff.2 (List.mem_append_right _ hy));omega
theorem zpJ {A:List Nat}{FS:List (List Nat)}{i:Nat}{F':List Nat}(h:(A++FS.flatten).Nodup)(hF':F'.Nodup)(hn:∀x∈F',x∉A++FS.flatten):(A++(zS i F' FS).flatten).Nodup:=by
 have p:(A++(zS i F' FS).flatten).Perm (F'++(A++FS.flatten)):=by
  refine (List.Perm.append_left A ((znC i F' FS).flatten)).trans ?_
  rw[List.flatten_cons]
  exact List.perm_append_comm_assoc ..
 rw[p.nodup_iff,List.nodup_append]
 exact ⟨hF',h,fun x hx y hy e=>hn x hx (e▸hy)⟩
end
end Go.Smd
end
