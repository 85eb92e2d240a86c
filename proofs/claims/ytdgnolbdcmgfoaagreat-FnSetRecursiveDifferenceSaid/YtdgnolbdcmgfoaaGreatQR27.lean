/- Part 27 of the proof: Cw Ov Or. -/
import Derived.Test.YtdgnolbdcmgfoaaGreatQR25
import Derived.Test.YtdgnolbdcmgfoaaGreatQR22
set_option linter.unusedVariables false
set_option linter.unusedSimpArgs false
set_option maxRecDepth 100000
set_option maxHeartbeats 8000000
section
namespace Go.Smd
open Go.RowKit Go.Proofs Go.Proofs.Tryz
def zbD (p q:ByteArray×GV):Int:=if zaZ p.1 q.1≠0 then zaZ p.1 q.1 else zar (zw p.2) (zw q.2)
theorem zi8 (k:Int)(s:ByteArray)(keys:List ByteArray)(l:List GV)(a b:Int)(c:Nat)(d:ByteArray)(e:List ByteArray)(f:List GV)(n:Int)(k':Int)(s':ByteArray)(keys':List ByteArray)(l':List GV)(a' b':Int)(c':Nat)(d':ByteArray)(e':List ByteArray)(f':List GV)(n':Int)(hk:keys.length*16≤140737488351232)(hl:l.length*88≤140737488351232)(hk':keys'.length*16≤140737488351232)(hl':l'.length*88≤140737488351232):
  ACalls prog 123 [evX k s keys l a b c d e f n,evX k' s' keys' l' a' b' c' d' e' f' n'] (fun r=>r=aI (zE zbD (keys.zip l) (keys'.zip l'))):=by
 refine ze [(4,([10],[(0,[]),(1,[]),(2,[]),(3,[]),(4,[]),(5,[]),(6,[]),(7,[]),(8,[]),(9,[]),(10,[]),(11,[])])),(7,([10],[(0,[]),(1,[]),(2,[]),(3,[]),(4,[]),(5,[]),(6,[]),(7,[]),(8,[]),(9,[]),(10,[]),(11,[])]))] func123 (by kernel_rfl) rfl ntmps123 results123 (Nat.le_of_ble_eq_true (by kernel_rfl)) ?_;intro hok w0 S0
 clear hok
 have b1:keys.length≤9223372036854775807:=by omega
 have b2:l.length≤9223372036854775807:=by omega
 have b3:keys'.length≤9223372036854775807:=by omega
 have b4:l'.length≤9223372036854775807:=by omega
 obtain ⟨m,hm⟩:∃m:Nat,m=min keys.length l.length:=⟨_,rfl⟩
 have hmin:min (keys.length:Int) (l.length:Int)=(m:Int):=by omega
 obtain ⟨m',hm'⟩:∃m':Nat,m'=min keys'.length l'.length:=⟨_,rfl⟩
 have hmin':min (keys'.length:Int) (l'.length:Int)=(m':Int):=by omega
 have z1:(keys.zip l).length=m:=by simp [hm]
 have z2:(keys'.zip l').length=m':=by simp [hm']
 have hcc:=Zp (m:Int) m'
 (repeat' (first|(with_reducible first|refine zj (fun _=>?_) (fun _=>?_)|refine zi (fun _=>?_) (fun _=>?_)|refine zk zb (by kernel_rfl) ?_|exact za rfl)|(simp -dsimp)));(all_goals try with_reducible refine za ?_)
 refine zC (fun i:Nat=>⟨[(2,.c (.own 2 0)),(3,.c (.own 3 0)),(5,aI i)],[(3,.cells [.d (dI k'),.d (dS s'),.d (ZK keys'),.d (zat l'),.d (dI a'),.d (dI b'),.d (dF c'),.d (dS d'),.d (ZK e'),.d (zat f'),.d (dI n')] 29),(2,.cells [.d (dI k),.d (dS s),.d (ZK keys),.d (zat l),.d (dI a),.d (dI b),.d (dF c),.d (dS d),.d (ZK e),.d (zat f),.d (dI n)] 29)]⟩) (fun i=>i≤m∧i≤m'∧zE zbD (keys.zip l) (keys'.zip l')=zE zbD ((keys.zip l).drop i) ((keys'.zip l').drop i)) (fun i=>m - i) 0 ?_ ⟨Nat.zero_le _,Nat.zero_le _,rfl⟩ ?_
 ·exact Weak.same (by simp -dsimp) (by simp -dsimp) (by first|rfl|(simp [zf,Av.ids,Ow.ids,Cl.ids,Go.Smd.keys];done))
 ·rintro i ⟨hi,hj,heq⟩ K hK
  have hw:IntKind.wrap .i64 ((i:Int)+1)=((i+1:Nat):Int):=by rw[zn]<;>omega
  have hend:¬(i<m∧i<m')→zE zbD (keys.zip l) (keys'.zip l')=zB (m:Int) m':=fun h=>by
   have:=heq.trans (ze2 (by omega) (by omega) fun h'=>h (by omega))
   rwa[z1,z2] at this
  by_cases h1:i<keys.length
  ·by_cases h2:i<l.length
   ·by_cases h3:i<keys'.length
    ·by_cases h4:i<l'.length
     ·have hc:=heq.trans (zkC (by omega) (by omega))
      have e1:(keys.zip l)[i]'(by omega)=(keys[i],l[i]):=by simp
      have e2:(keys'.zip l')[i]'(by omega)=(keys'[i],l'[i]):=by simp
      rw[e1,e2] at hc
      have hs:=zbM keys[i] keys'[i]
      have hv:=zd1 l[i] l'[i]
      by_cases hy:zaZ keys[i] keys'[i]=0
      ·have hf:zbD (keys[i],l[i]) (keys'[i],l'[i])=zar (zw l[i]) (zw l'[i]):=by unfold zbD;rw[if_neg (by simpa using hy)]
       rw[hf] at hc
       rw[hy] at hs
       by_cases hz:zar (zw l[i]) (zw l'[i])=0
       ·rw[if_neg (by simpa using hz)] at hc
        rw[hz] at hv
        (repeat' (first|(with_reducible first|refine zj (fun _=>?_) (fun _=>?_)|refine zi (fun _=>?_) (fun _=>?_)|refine zl (hs) (by first|rfl|(simp -dsimp [hw,b1,b2,b3,b4,h1,h2,h3,h4,ZL];done)) ?_|(refine zA (hs) rfl ?_ ?_ ?_;iterate 2 exact by first|rfl|(simp -dsimp [hw,b1,b2,b3,b4,h1,h2,h3,h4,ZL];done))|refine zl (hv) (by first|rfl|(simp -dsimp [hw,b1,b2,b3,b4,h1,h2,h3,h4,ZL];done)) ?_|(refine zA (hv) rfl ?_ ?_ ?_;iterate 2 exact by first|rfl|(simp -dsimp [hw,b1,b2,b3,b4,h1,h2,h3,h4,ZL];done))|refine zk zb (by kernel_rfl) ?_|exact za rfl)|(simp -dsimp [hw,b1,b2,b3,b4,h1,h2,h3,h4,ZL])));(all_goals try with_reducible refine za ?_)
        refine hK _ (i+1) ?_ ⟨by omega,by omega,hc⟩ (by omega)
        exact Weak.same (by simp -dsimp) (by simp -dsimp) (by first|rfl|(simp [zf,Av.ids,Ow.ids,Cl.ids,Go.Smd.keys];done))
       ·rw[if_pos hz] at hc
        (repeat' (first|(with_reducible first|refine zj (fun _=>?_) (fun _=>?_)|refine zi (fun _=>?_) (fun _=>?_)|refine zl (hs) (by first|rfl|(simp -dsimp [hw,b1,b2,b3,b4,h1,h2,h3,h4,hz,ZL];done)) ?_|(refine zA (hs) rfl ?_ ?_ ?_;iterate 2 exact by first|rfl|(simp -dsimp [hw,b1,b2,b3,b4,h1,h2,h3,h4,hz,ZL];done))|refine zl (hv) (by first|rfl|(simp -dsimp [hw,b1,b2,b3,b4,h1,h2,h3,h4,hz,ZL];done)) ?_|(refine zA (hv) rfl ?_ ?_ ?_;iterate 2 exact by first|rfl|(simp -dsimp [hw,b1,b2,b3,b4,h1,h2,h3,h4,hz,ZL];done))|refine zk zb (by kernel_rfl) ?_|exact za rfl)|(simp -dsimp [hw,b1,b2,b3,b4,h1,h2,h3,h4,hz,ZL])));(all_goals try with_reducible refine za ?_)
        rw[hc]
      ·have hf:zbD (keys[i],l[i]) (keys'[i],l'[i])=zaZ keys[i] keys'[i]:=by unfold zbD;rw[if_pos hy]
       rw[hf,if_pos hy] at hc
       (repeat' (first|(with_reducible first|refine zj (fun _=>?_) (fun _=>?_)|refine zi (fun _=>?_) (fun _=>?_)|refine zl (hs) (by first|rfl|(simp -dsimp [hw,b1,b2,b3,b4,h1,h2,h3,h4,hy,ZL];done)) ?_|(refine zA (hs) rfl ?_ ?_ ?_;iterate 2 exact by first|rfl|(simp -dsimp [hw,b1,b2,b3,b4,h1,h2,h3,h4,hy,ZL];done))|refine zk zb (by kernel_rfl) ?_|exact za rfl)|(simp -dsimp [hw,b1,b2,b3,b4,h1,h2,h3,h4,hy,ZL])));(all_goals try with_reducible refine za ?_)
       rw[hc]
     ·have hc:=hend (by omega)
      (repeat' (first|(with_reducible first|refine zj (fun _=>?_) (fun _=>?_)|refine zi (fun _=>?_) (fun _=>?_)|refine zl (hcc) (by first|rfl|(simp -dsimp [b1,b2,b3,b4,h1,h2,h3,h4,hmin,hmin'];done)) ?_|(refine zA (hcc) rfl ?_ ?_ ?_;iterate 2 exact by first|rfl|(simp -dsimp [b1,b2,b3,b4,h1,h2,h3,h4,hmin,hmin'];done))|refine zk zb (by kernel_rfl) ?_|exact za rfl)|(simp -dsimp [b1,b2,b3,b4,h1,h2,h3,h4,hmin,hmin'])));(all_goals try with_reducible refine za ?_)
      rw[hc]
    ·have hc:=hend (by omega)
     (repeat' (first|(with_reducible first|refine zj (fun _=>?_) (fun _=>?_)|refine zi (fun _=>?_) (fun _=>?_)|refine zl (hcc) (by first|rfl|(simp -dsimp [b1,b2,b3,b4,h1,h2,h3,hmin,hmin'];done)) ?_|(refine zA (hcc) rfl ?_ ?_ ?_;iterate 2 exact by first|rfl|(simp -dsimp [b1,b2,b3,b4,h1,h2,h3,hmin,hmin'];done))|refine zk zb (by kernel_rfl) ?_|exact za rfl)|(simp -dsimp [b1,b2,b3,b4,h1,h2,h3,hmin,hmin'])));(all_goals try with_reducible refine za ?_)
     rw[hc]
   ·have hc:=hend (by omega)
    (repeat' (first|(with_reducible first|refine zj (fun _=>?_) (fun _=>?_)|refine zi (fun _=>?_) (fun _=>?_)|refine zl (hcc) (by first|rfl|(simp -dsimp [b1,b2,b3,b4,h1,h2,hmin,hmin'];done)) ?_|(refine zA (hcc) rfl ?_ ?_ ?_;iterate 2 exact by first|rfl|(simp -dsimp [b1,b2,b3,b4,h1,h2,hmin,hmin'];done))|refine zk zb (by kernel_rfl) ?_|exact za rfl)|(simp -dsimp [b1,b2,b3,b4,h1,h2,hmin,hmin'])));(all_goals try with_reducible refine za ?_)
    rw[hc]
  ·have hc:=hend (by omega)
   (repeat' (first|(with_reducible first|refine zj (fun _=>?_) (fun _=>?_)|refine zi (fun _=>?_) (fun _=>?_)|refine zl (hcc) (by first|rfl|(simp -dsimp [b1,b2,b3,b4,h1,hmin,hmin'];done)) ?_|(refine zA (hcc) rfl ?_ ?_ ?_;iterate 2 exact by first|rfl|(simp -dsimp [b1,b2,b3,b4,h1,hmin,hmin'];done))|refine zk zb (by kernel_rfl) ?_|exact za rfl)|(simp -dsimp [b1,b2,b3,b4,h1,hmin,hmin'])));(all_goals try with_reducible refine za ?_)
   rw[hc]
def zt (e e':EV):Int:=
 if zB (rkE e.k) (rkE e'.k)≠0 then zB (rkE e.k) (rkE e'.k)
 else if rkE e.k=1 then zE zbD (e.keys.zip e.l) (e'.keys.zip e'.l) else if rkE e.k=2 then zar (zw e.v) (zw e'.v) else if rkE e.k=3 then zB e.n e'.n else zaZ e.s e'.s
theorem zhO (e e':EV)(h:e.keys.length*16≤140737488351232∧e.l.length*88≤140737488351232)(h':e'.keys.length*16≤140737488351232∧e'.l.length*88≤140737488351232):
  ACalls prog 67 [evA e,evA e'] (fun r=>r=aI (zt e e')):=by
 obtain ⟨k,s,keys,l,⟨a,b,c,d,e,f⟩,n⟩:=e
 obtain ⟨k',s',keys',l',⟨a',b',c',d',e',f'⟩,n'⟩:=e'
 dsimp only at h h'
 rw[zds,zds]
 simp only [zt]
 have c1:=zep k s keys l a b c d e f n
 have c2:=zep k' s' keys' l' a' b' c' d' e' f' n'
 obtain ⟨R,hR⟩:∃R,R=rkE k:=⟨_,rfl⟩
 rw[←hR] at c1 ⊢
 have c3:=Zp R (rkE k')
 have c4:=zi8 k s keys l a b c d e f n k' s' keys' l' a' b' c' d' e' f' n' h.1 h.2 h'.1 h'.2
 have c5:=zd1 (.mk a b c d e f) (.mk a' b' c' d' e' f')
 rw[zci,zci] at c5
 have c6:=Zp n n'
 have c7:=zbM s s'
 by_cases hz:zB R (rkE k')=0
 ·rw[hz] at c3
  rw[if_neg (by simpa using hz)]
  refine ze [(1,([3,4],[(0,[]),(2,[]),(1,[]),(3,[]),(4,[]),(5,[])]))] func67 (by kernel_rfl) rfl ntmps67 results67 (Nat.le_of_ble_eq_true (by kernel_rfl)) ?_;intro hok w0 S0
  clear hok
  (repeat' (first|(with_reducible first|refine zj (fun _=>?_) (fun _=>?_)|refine zi (fun _=>?_) (fun _=>?_)|refine zl (c1) (by first|rfl|(simp -dsimp;done)) ?_|(refine zA (c1) rfl ?_ ?_ ?_;iterate 2 exact by first|rfl|(simp -dsimp;done))|refine zl (c2) (by first|rfl|(simp -dsimp;done)) ?_|(refine zA (c2) rfl ?_ ?_ ?_;iterate 2 exact by first|rfl|(simp -dsimp;done))|refine zl (c3) (by first|rfl|(simp -dsimp;done)) ?_|(refine zA (c3) rfl ?_ ?_ ?_;iterate 2 exact by first|rfl|(simp -dsimp;done))|refine zl (c4) (by first|rfl|(simp -dsimp;done)) ?_|(refine zA (c4) rfl ?_ ?_ ?_;iterate 2 exact by first|rfl|(simp -dsimp;done))|refine zl (c5) (by first|rfl|(simp -dsimp;done)) ?_|(refine zA (c5) rfl ?_ ?_ ?_;iterate 2 exact by first|rfl|(simp -dsimp;done))|refine zl (c6) (by first|rfl|(simp -dsimp;done)) ?_|(refine zA (c6) rfl ?_ ?_ ?_;iterate 2 exact by first|rfl|(simp -dsimp;done))|refine zl (c7) (by first|rfl|(simp -dsimp;done)) ?_|(refine zA (c7) rfl ?_ ?_ ?_;iterate 2 exact by first|rfl|(simp -dsimp;done))|refine zk zb (by kernel_rfl) ?_|exact za rfl)|(simp -dsimp)));(all_goals try with_reducible refine za ?_)
  all_goals simp_all
 ·rw[if_pos hz]
  refine ze [(1,([3,4],[(0,[]),(2,[]),(1,[]),(3,[]),(4,[]),(5,[])]))] func67 (by kernel_rfl) rfl ntmps67 results67 (Nat.le_of_ble_eq_true (by kernel_rfl)) ?_;intro hok w0 S0
  clear hok
  (repeat' (first|(with_reducible first|refine zj (fun _=>?_) (fun _=>?_)|refine zi (fun _=>?_) (fun _=>?_)|refine zl (c1) (by first|rfl|(simp -dsimp [hz];done)) ?_|(refine zA (c1) rfl ?_ ?_ ?_;iterate 2 exact by first|rfl|(simp -dsimp [hz];done))|refine zl (c2) (by first|rfl|(simp -dsimp [hz];done)) ?_|(refine zA (c2) rfl ?_ ?_ ?_;iterate 2 exact by first|rfl|(simp -dsimp [hz];done))|refine zl (c3) (by first|rfl|(simp -dsimp [hz];done)) ?_|(refine zA (c3) rfl ?_ ?_ ?_;iterate 2 exact by first|rfl|(simp -dsimp [hz];done))|refine zk zb (by kernel_rfl) ?_|exact za rfl)|(simp -dsimp [hz])));(all_goals try with_reducible refine za ?_)
theorem zsO {p q:ByteArray×GV}(hp:Zl (zx p.2))(hq:Zl (zx q.2)):ze3 (p.1,zx p.2) (q.1,zx q.2)=zbD p q:=by
 unfold ze3 zbD
 rw[zg6 _ _ hp hq]
theorem za1 (e e':EV)(h:FitsE e)(h':FitsE e'):ZY (zR e) (zR e')=zt e e':=by
 have h1:zE ze3 (zbL e.keys e.l) (zbL e'.keys e'.l)=zE zbD (e.keys.zip e.l) (e'.keys.zip e'.l):=by
  rw[zfr,zfr]
  exact zi6 fun x hx y hy=>zsO (h.zip x hx) (h'.zip y hy)
 have h2:=zg6 e.v e'.v h.val h'.val
 unfold zR zt rkE
 by_cases k1:e.k=1
 ·by_cases k1':e'.k=1
  ·simp [k1,k1',ZY,h1,zB]
  ·by_cases k2':e'.k=2
   ·simp [k1,k2',ZY,zB]
   ·by_cases k3':e'.k=3<;>simp [k1,k1',k2',k3',ZY,zB]
 ·by_cases k2:e.k=2
  ·by_cases k1':e'.k=1
   ·simp [k2,k1',ZY,zB]
   ·by_cases k2':e'.k=2
    ·simp [k2,k2',ZY,h2,zB]
    ·by_cases k3':e'.k=3<;>simp [k2,k1',k2',k3',ZY,zB]
  ·by_cases k3:e.k=3
   ·by_cases k1':e'.k=1
    ·simp [k3,k1',ZY,zB]
    ·by_cases k2':e'.k=2
     ·simp [k3,k2',ZY,zB]
     ·by_cases k3':e'.k=3<;>simp [k3,k1',k2',k3',ZY,zB]
   ·by_cases k1':e'.k=1
    ·simp [k1,k2,k3,k1',ZY,zB]
    ·by_cases k2':e'.k=2
     ·simp [k1,k2,k3,k2',ZY,zB]
     ·by_cases k3':e'.k=3<;>simp [k1,k2,k3,k1',k2',k3',ZY,zB]
theorem zhP (l:List GV)(hl:l.length*88≤140737488351232):ACalls prog 65 [.c (.d (zat l))] (fun r=>r=aV (.bool (l.all zU))):=by
 refine ze [] func65 (by kernel_rfl) rfl ntmps65 results65 (Nat.le_of_ble_eq_true (by kernel_rfl)) ?_;intro hok w0 S0
 clear hok
 have b1:l.length≤9223372036854775807:=by omega
 (repeat' (first|(with_reducible first|refine zj (fun _=>?_) (fun _=>?_)|refine zi (fun _=>?_) (fun _=>?_)|refine zk zb (by kernel_rfl) ?_|exact za rfl)|(simp -dsimp [b1])));(all_goals try with_reducible refine za ?_)
 refine zC (fun i:Nat=>⟨[(5,.c (.d (zat l))),(6,aI l.length),(7,aI i)],[]⟩) (fun i=>i≤l.length∧(l.take i).all zU=true) (fun i=>l.length - i) 0 ?_ ⟨Nat.zero_le _,rfl⟩ ?_
 ·exact Weak.same (by simp -dsimp) (by simp -dsimp) (by first|rfl|(simp [zf,Av.ids,Ow.ids,Cl.ids,Go.Smd.keys];done))
 ·rintro i ⟨hi,hall⟩ K hK
  by_cases hlt:i<l.length
  ·have hw:IntKind.wrap .i64 ((i:Int)+1)=((i+1:Nat):Int):=by rw[zn]<;>omega
   have ho:=zkv l[i]
   by_cases hz:zU l[i]=true
   ·rw[hz] at ho
    (repeat' (first|(with_reducible first|refine zj (fun _=>?_) (fun _=>?_)|refine zi (fun _=>?_) (fun _=>?_)|refine zl (ho) (by first|rfl|(simp -dsimp [b1,hlt,hw];done)) ?_|refine zk zb (by kernel_rfl) ?_|exact za rfl)|(simp -dsimp [b1,hlt,hw])));(all_goals try with_reducible refine za ?_)
    refine hK _ (i+1) ?_ ⟨by omega,by rw[List.take_succ_eq_append_getElem hlt,List.all_append,hall];simp [hz]⟩ (by omega)
    exact Weak.same (by simp -dsimp) (by simp -dsimp) (by first|rfl|(simp [zf,Av.ids,Ow.ids,Cl.ids,Go.Smd.keys];done))
   ·have hz:zU l[i]=false:=by simpa using hz
    rw[hz] at ho
    (repeat' (first|(with_reducible first|refine zj (fun _=>?_) (fun _=>?_)|refine zi (fun _=>?_) (fun _=>?_)|refine zl (ho) (by first|rfl|(simp -dsimp [b1,hlt,hw];done)) ?_|refine zk zb (by kernel_rfl) ?_|exact za rfl)|(simp -dsimp [b1,hlt,hw])));(all_goals try with_reducible refine za ?_)
    have:l.all zU=false:=by
     rw[Bool.eq_false_iff]
     intro h
     have:=List.all_eq_true.1 h _ (List.getElem_mem hlt)
     rw[hz] at this;cases this
    rw[this]
  ·have e:l.take i=l:=List.take_of_length_le (by omega)
   rw[e] at hall
   rw[hall]
   (repeat' (first|(with_reducible first|refine zj (fun _=>?_) (fun _=>?_)|refine zi (fun _=>?_) (fun _=>?_)|refine zk zb (by kernel_rfl) ?_|exact za rfl)|(simp -dsimp [hlt])));(all_goals try with_reducible refine za ?_)
theorem zsP (a b:GV)(ha:Zl (zx a))(hb:Zl (zx b))(oa:zU a=true)(ob:zU b=true):zmT (zx a) (zx b)=0↔eqV (zx a) (zx b)=true:=
 zok _ _ _ (Nat.le_refl _) ha hb (zsB a oa) (zsB b ob)
structure Ord3 {α:Type} (O:α→Prop) (c:α→α→Int):Prop where
 anti:∀x y,O x→O y→c y x= - c x y
 trans:∀x y z,O x→O y→O z→c x y≤0→c y z≤0→c x z≤0
section
variable {α:Type} {O:α→Prop} {c d:α→α→Int}
theorem Ord3.refl (h:Ord3 O c){x:α}(hx:O x):c x x=0:=by have:=h.anti x x hx hx;omega
theorem Ord3.lt_le (h:Ord3 O c){x y z:α}(hx:O x)(hy:O y)(hz:O z)(h1:c x y<0)(h2:c y z≤0):c x z<0:=by
 apply Classical.byContradiction
 intro hn
 have h3:=h.anti x z hx hz
 have h4:=h.trans y z x hy hz hx h2 (by omega)
 have h5:=h.anti x y hx hy
 omega
theorem Ord3.le_lt (h:Ord3 O c){x y z:α}(hx:O x)(hy:O y)(hz:O z)(h1:c x y≤0)(h2:c y z<0):c x z<0:=by
 apply Classical.byContradiction
 intro hn
 have h3:=h.anti x z hx hz
 have h4:=h.trans z x y hz hx hy (by omega) h1
 have h5:=h.anti y z hy hz
 omega
theorem Ord3.eq_trans (h:Ord3 O c){x y z:α}(hx:O x)(hy:O y)(hz:O z)(h1:c x y=0)(h2:c y z=0):c x z=0:=by
 have h3:=h.trans x y z hx hy hz (by omega) (by omega)
 have a1:=h.anti x y hx hy
 have a2:=h.anti y z hy hz
 have h4:=h.trans z y x hz hy hx (by omega) (by omega)
 have a3:=h.anti x z hx hz
 omega
theorem Ord3.mono {O':α→Prop}(h:Ord3 O c)(k:∀x,O' x→O x):Ord3 O' c:=⟨fun x y hx hy=>h.anti x y (k x hx) (k y hy),fun x y z hx hy hz=>h.trans x y z (k x hx) (k y hy) (k z hz)⟩
theorem Ord3.congr (h:Ord3 O c)(k:∀x y,O x→O y→d x y=c x y):Ord3 O d:=
 ⟨fun x y hx hy=>by rw[k x y hx hy,k y x hy hx];exact h.anti x y hx hy,fun x y z hx hy hz=>by rw[k x y hx hy,k y z hy hz,k x z hx hz];exact h.trans x y z hx hy hz⟩
theorem Ord3.comap {β:Type}(h:Ord3 O c)(f:β→α):Ord3 (fun x=>O (f x)) (fun x y=>c (f x) (f y)):=⟨fun x y hx hy=>h.anti _ _ hx hy,fun x y z hx hy hz=>h.trans _ _ _ hx hy hz⟩
theorem Ord3.lex (h:Ord3 O c)(ha:∀x y,O x→O y→c x y=0→d y x= - d x y)(ht:∀x y z,O x→O y→O z→c x y=0→c y z=0→d x y≤0→d y z≤0→d x z≤0):Ord3 O (fun x y=>if c x y≠0 then c x y else d x y):=by
 refine ⟨fun x y hx hy=>?_,fun x y z hx hy hz h1 h2=>?_⟩
 ·have a:=h.anti x y hx hy
  by_cases e:c x y=0
  ·rw[if_neg (by omega),if_neg (by omega)];exact ha x y hx hy e
  ·rw[if_pos (by omega),if_pos e];exact a
 ·try dsimp only at h1 h2 ⊢
  by_cases e1:c x y=0
  ·rw[if_neg (by omega)] at h1
   by_cases e2:c y z=0
   ·rw[if_neg (by omega)] at h2
    have e3:=h.eq_trans hx hy hz e1 e2
    rw[if_neg (by omega)]
    exact ht x y z hx hy hz e1 e2 h1 h2
   ·rw[if_pos e2] at h2
    have:=h.le_lt hx hy hz (by omega) (show c y z<0 by omega)
    rw[if_pos (by omega)];omega
  ·rw[if_pos e1] at h1
   have h2':c y z≤0:=by
    by_cases e2:c y z=0
    ·omega
    ·rw[if_pos e2] at h2;exact h2
   have:=h.lt_le hx hy hz (show c x y<0 by omega) h2'
   rw[if_pos (by omega)];omega
theorem Ord3.row (h:Ord3 O c):Ord3 (fun l:List α=>∀x∈l,O x) (zE c):=by
 have anti:∀l m:List α,(∀x∈l,O x)→(∀x∈m,O x)→zE c m l= - zE c l m:=by
  intro l
  induction l with
  |nil=>intro m _ _;cases m<;>simp [zE]
  |cons x l ih=>
   intro m hl hm
   cases m with
   |nil=>simp [zE]
   |cons y m=>
    have a:=h.anti x y (hl x (List.mem_cons_self ..)) (hm y (List.mem_cons_self ..))
    have i:=ih m (fun a ha=>hl a (List.mem_cons_of_mem _ ha)) fun a ha=>hm a (List.mem_cons_of_mem _ ha)
    simp only [zE]
    by_cases e:c x y=0
    ·rw[if_neg (by omega),if_neg (by omega)];exact i
    ·rw[if_pos (by omega),if_pos e];exact a
 refine ⟨anti,fun l=>?_⟩
 induction l with
 |nil=>intro m n _ _ _ _ h2;cases n<;>simp [zE]
 |cons x l ih=>
  intro m n hl hm hn h1 h2
  cases m with
  |nil=>simp [zE] at h1
  |cons y m=>cases n with
   |nil=>simp [zE] at h2
   |cons z n=>
    have hx:=hl x (List.mem_cons_self ..)
    have hy:=hm y (List.mem_cons_self ..)
    have hz:=hn z (List.mem_cons_self ..)
    have i:=ih m n (fun a ha=>hl a (List.mem_cons_of_mem _ ha)) (fun a ha=>hm a (List.mem_cons_of_mem _ ha)) (fun a ha=>hn a (List.mem_cons_of_mem _ ha))
    simp only [zE] at h1 h2 ⊢
    by_cases e1:c x y=0
    ·rw[if_neg (by omega)] at h1
     by_cases e2:c y z=0
     ·rw[if_neg (by omega)] at h2
      have e3:=h.eq_trans hx hy hz e1 e2
      rw[if_neg (by omega)]
      exact i h1 h2
     ·rw[if_pos e2] at h2
      have:=h.le_lt hx hy hz (by omega) (show c y z<0 by omega)
      rw[if_pos (by omega)];omega
    ·rw[if_pos e1] at h1
     have h2':c y z≤0:=by
      by_cases e2:c y z=0
      ·omega
      ·rw[if_pos e2] at h2;exact h2
     have:=h.lt_le hx hy hz (show c x y<0 by omega) h2'
     rw[if_pos (by omega)];omega
theorem zcl:Ord3 (fun _:Int=>True) zB:=by
 refine ⟨fun x y _ _=>?_,fun x y z _ _ _=>?_⟩
 ·unfold zB;repeat' split
  all_goals omega
 ·unfold zB;repeat' split
  all_goals omega
theorem zgz:∀l  m:List UInt8,Lib.compareBytes l m=zE (fun a b=>zB (a.toNat:Int) b.toNat) l m
 | [],[]=>rfl
 | [],_::_=>rfl
 |_::_,[]=>rfl
 |a::l,b::m=>by
  rw[zcJ]
  simp only [zE]
  by_cases e:a=b
  ·subst e;rw[if_pos rfl,zkA,if_neg (by simp)];exact zgz l m
  ·have:zB (a.toNat:Int) b.toNat≠0:=by
    intro h
    refine e (UInt8.toNat_inj.1 ?_)
    unfold zB at h
    split at h
    ·omega
    ·split at h<;>omega
   rw[if_neg e,if_pos this]
theorem zgA:Ord3 (fun _:ByteArray=>True) zaZ:=by
 have h:=((zcl.comap (fun a:UInt8=>(a.toNat:Int))).row).comap (fun s:ByteArray=>s.data.toList)
 exact (h.mono fun x _ a _=>trivial).congr fun x y _ _=>zgz _ _
end
def zkJ (b:Int):Ieee.Datum→Int
 | .number s m i=>Ieee.signed s m (i - b).toNat
 | .infinity _=>0
 | .nan _ _=>0
def zet:Ieee.Datum→Int
 | .infinity s=>if s then -1 else 1
 |_=>0
def zdH:Ieee.Datum→Int
 | .number _ _ i=>i
 |_=>0
theorem zeu (s:Bool)(m k t:Nat):Ieee.signed s m (k+t)=Ieee.signed s m k*((2 ^ t:Nat):Int):=by
 unfold Ieee.signed
 have:m<<<(k+t)=(m<<<k)*2 ^ t:=by rw[Nat.shiftLeft_eq,Nat.shiftLeft_eq,Nat.pow_add,Nat.mul_assoc]
 cases s
 ·simp only [Bool.false_eq_true,if_false,this];rw[Int.natCast_mul]
 ·simp only [if_true,this];rw[Int.natCast_mul,Int.neg_mul]
theorem zm2 (a b:Int)(t:Nat)(ht:0<t):zB (a*(t:Int)) (b*(t:Int))=zB a b:=by
 have hp:(0:Int)<t:=by omega
 unfold zB
 rcases Int.lt_trichotomy a b with h|h|h
 ·have:=Int.mul_lt_mul_of_pos_right h hp
  rw[if_neg (by omega),if_pos this,if_neg (by omega),if_pos h]
 ·subst h;rw[if_neg (by omega),if_neg (by omega),if_neg (by omega),if_neg (by omega)]
 ·have:=Int.mul_lt_mul_of_pos_right h hp
  rw[if_pos this,if_pos h]
theorem zkK {x y:Nat}{s t:Bool}{m n:Nat}{i j b:Int}(hx:FloatKind.f64.format.read x= .number s m i)(hy:FloatKind.f64.format.read y= .number t n j)(hi:b≤i)(hj:b≤j):zaP x y=zB (Ieee.signed s m (i - b).toNat) (Ieee.signed t n (j - b).toNat):=by
 have e1:(i - b).toNat=(i - min i j).toNat+(min i j - b).toNat:=by omega
 have e2:(j - b).toNat=(j - min i j).toNat+(min i j - b).toNat:=by omega
 rw[e1,e2,zeu,zeu,zm2 _ _ _ (Nat.pow_pos (by decide))]
 have ho:FloatKind.f64.format.order x y=some (compare (Ieee.signed s m (i - min i j).toNat) (Ieee.signed t n (j - min i j).toNat)):=by
  unfold Ieee.Format.order;rw[hx,hy];rfl
 rcases Int.lt_trichotomy (Ieee.signed s m (i - min i j).toNat) (Ieee.signed t n (j - min i j).toNat) with h|h|h
 ·have hc:compare (Ieee.signed s m (i - min i j).toNat) (Ieee.signed t n (j - min i j).toNat)= .lt:=Std.compare_eq_lt.2 h
  have r:zB (Ieee.signed s m (i - min i j).toNat) (Ieee.signed t n (j - min i j).toNat)= -1:=by unfold zB;rw[if_neg (by omega),if_pos h]
  rw[r];unfold zaP;rw[ho,hc];rfl
 ·have hc:compare (Ieee.signed s m (i - min i j).toNat) (Ieee.signed t n (j - min i j).toNat)= .eq:=Std.compare_eq_iff_eq.2 h
  have r:zB (Ieee.signed s m (i - min i j).toNat) (Ieee.signed t n (j - min i j).toNat)=0:=by unfold zB;rw[if_neg (by omega),if_neg (by omega)]
  rw[r];unfold zaP;rw[ho,hc];rfl
 ·have hc:compare (Ieee.signed s m (i - min i j).toNat) (Ieee.signed t n (j - min i j).toNat)= .gt:=Std.compare_eq_gt.2 h
  have r:zB (Ieee.signed s m (i - min i j).toNat) (Ieee.signed t n (j - min i j).toNat)=1:=by unfold zB;rw[if_pos h]
  rw[r];unfold zaP;rw[ho,hc];rfl
theorem zon {x y:Nat}(hx:(FloatKind.f64.format.read x).isNaN=false)(hy:(FloatKind.f64.format.read y).isNaN=false){b:Int}(hi:b≤zdH (FloatKind.f64.format.read x))(hj:b≤zdH (FloatKind.f64.format.read y)):
  zaP x y=if zB (zet (FloatKind.f64.format.read x)) (zet (FloatKind.f64.format.read y))≠0 then zB (zet (FloatKind.f64.format.read x)) (zet (FloatKind.f64.format.read y)) else zB (zkJ b (FloatKind.f64.format.read x)) (zkJ b (FloatKind.f64.format.read y)):=by
 cases ex:FloatKind.f64.format.read x with
 |nan s t=>rw[ex] at hx;cases hx
 |infinity s=>cases ey:FloatKind.f64.format.read y with
  |nan s t=>rw[ey] at hy;cases hy
  |infinity t=>
   have ho:FloatKind.f64.format.order x y=some (compare t.toNat s.toNat):=by unfold Ieee.Format.order;rw[ex,ey];rfl
   unfold zaP;rw[ho]
   cases s<;>cases t<;>simp only [zet,zkJ]<;>decide
  |number t n j=>
   have ho:FloatKind.f64.format.order x y=some (if s then .lt else .gt):=by unfold Ieee.Format.order;rw[ex,ey];rfl
   unfold zaP;rw[ho]
   cases s<;>simp [zet,zB]
 |number s m i=>cases ey:FloatKind.f64.format.read y with
  |nan s t=>rw[ey] at hy;cases hy
  |infinity t=>
   have ho:FloatKind.f64.format.order x y=some (if t then .gt else .lt):=by unfold Ieee.Format.order;rw[ex,ey];rfl
   unfold zaP;rw[ho]
   cases t<;>simp [zet,zB]
  |number t n j=>
   rw[ex] at hi;rw[ey] at hj
   rw[zkK ex ey (b:=b) hi hj]
   simp [zet,zkJ,zkA]
theorem zqB:Ord3 (fun x:Nat=>(FloatKind.f64.format.read x).isNaN=false) zaP:=by
 have key:∀b:Int,Ord3 (fun x:Nat=>(FloatKind.f64.format.read x).isNaN=false∧b≤zdH (FloatKind.f64.format.read x)) zaP:=fun b=>by
  refine Ord3.congr (Ord3.lex (((zcl.comap fun x:Nat=>zet (FloatKind.f64.format.read x))).mono fun _ _=>trivial) (d:=fun x y=>zB (zkJ b (FloatKind.f64.format.read x)) (zkJ b (FloatKind.f64.format.read y))) (fun x y _ _ _=>zcl.anti _ _ trivial trivial) fun x y z _ _ _ _ _=>zcl.trans _ _ _ trivial trivial trivial) fun x y hx hy=>?_
  exact zon hx.1 hy.1 hx.2 hy.2
 refine ⟨fun x y hx hy=>(key (min (zdH (FloatKind.f64.format.read x)) (zdH (FloatKind.f64.format.read y)))).anti x y ⟨hx,by omega⟩ ⟨hy,by omega⟩,fun x y z hx hy hz=>?_⟩
 exact (key (min (zdH (FloatKind.f64.format.read x)) (min (zdH (FloatKind.f64.format.read y)) (zdH (FloatKind.f64.format.read z))))).trans x y z ⟨hx,by omega⟩ ⟨hy,by omega⟩ ⟨hz,by omega⟩
theorem zm3 {n:Nat}(h:n≠0):2 ^ n.log2≤n∧n<2 ^ (n.log2+1):=⟨Nat.log2_self_le h,Nat.lt_log2_self⟩
theorem zsQ (neg:Bool)(n:Nat):Ieee.Toward.even.cut neg n 0=n:=by
 unfold Ieee.Toward.cut
 simp [Nat.mod_one]
theorem zqC {neg:Bool}{r k:Nat}(hk:k<4503599627370496)(q:Nat)(hq:1≤q)(hq2:q<2047)(hr:r=q*4503599627370496+k):Ieee.double.read (Ieee.double.word neg r)= .number neg (4503599627370496+k) (-1074+((q - 1:Nat):Int)):=by
 have hinf:Ieee.double.infRung=9218868437227405312:=by decide+kernel
 have hsw:Ieee.double.signWeight=9223372036854775808:=by decide+kernel
 have hbi:Ieee.double.binade=4503599627370496:=by decide+kernel
 have hle:Ieee.double.leastPlace= -1074:=by decide+kernel
 have hlt:r<9218868437227405312:=by omega
 have hm:Ieee.double.word neg r % Ieee.double.signWeight=r:=by
  rw[hsw];unfold Ieee.Format.word;rw[hsw];split<;>omega
 have hneg:(Ieee.double.word neg r / Ieee.double.signWeight % 2==1)=neg:=by
  rw[hsw];unfold Ieee.Format.word;rw[hsw]
  cases neg
  ·simp only [Bool.false_eq_true,if_false]
   have:r / 9223372036854775808=0:=Nat.div_eq_of_lt (by omega)
   rw[this];rfl
  ·simp only [if_true]
   have:(9223372036854775808+r) / 9223372036854775808=1:=by omega
   rw[this];rfl
 unfold Ieee.Format.read
 simp only [hm,hneg,hbi,hinf,hle]
 have e1:r % 4503599627370496=k:=by omega
 have e2:r / 4503599627370496=q:=by omega
 rw[if_neg (by omega),if_pos hlt,e1,e2]
theorem zoo (neg:Bool)(n:Nat)(hn:n≤9007199254740992):∃m i,Ieee.double.read (Ieee.double.nearest neg n 0)= .number neg m i∧i≤1∧∀b:Int,b≤i→b≤0→Ieee.signed neg m (i - b).toNat=Ieee.signed neg n (0 - b).toNat:=by
 have hbi:Ieee.double.binade=4503599627370496:=by decide+kernel
 have hle:Ieee.double.leastPlace= -1074:=by decide+kernel
 have hinf:Ieee.double.infRung=9218868437227405312:=by decide+kernel
 have hfb:Ieee.double.fractionBits=52:=rfl
 by_cases h0:n=0
 ·subst h0
  refine ⟨0, -1074,?_,by omega,fun b _ _=>by cases neg<;>simp [Ieee.signed]⟩
  unfold Ieee.Format.nearest
  rw[if_pos rfl]
  cases neg<;>decide+kernel
 ·by_cases h1:n=9007199254740992
  ·subst h1
   refine ⟨4503599627370496,1,?_,by omega,fun b h1 h2=>?_⟩
   ·cases neg<;>decide+kernel
   ·have e:(1 - b).toNat=(0 - b).toNat+1:=by omega
    rw[e,zeu]
    have e2:Ieee.signed neg 9007199254740992 (0 - b).toNat=Ieee.signed neg 4503599627370496 (0 - b).toNat*2:=by
     unfold Ieee.signed
     have:(9007199254740992:Nat)<<<(0 - b).toNat=(4503599627370496<<<(0 - b).toNat)*2:=by rw[Nat.shiftLeft_eq,Nat.shiftLeft_eq];omega
     rw[this]
     cases neg<;>simp<;>omega
    rw[e2];simp
  ·obtain ⟨b1,b2⟩:=zm3 h0
   have hL:n.log2≤52:=by
    apply Classical.byContradiction
    intro h
    have:2 ^ 53≤2 ^ n.log2:=Nat.pow_le_pow_right (by decide) (by omega)
    omega
   obtain ⟨L,hLd⟩:∃L,L=n.log2:=⟨_,rfl⟩
   rw[←hLd] at b1 b2 hL
   have last:max ((0:Int)+(n.log2:Int) - (Ieee.double.fractionBits:Int)) Ieee.double.leastPlace=(L:Int) - 52:=by rw[hle,hfb,←hLd];omega
   have kd:n<<<(52 - L)=n*2 ^ (52 - L):=Nat.shiftLeft_eq _ _
   have k1:4503599627370496≤n*2 ^ (52 - L):=by
    have h1:2 ^ L*2 ^ (52 - L)≤n*2 ^ (52 - L):=Nat.mul_le_mul_right _ b1
    rw[←Nat.pow_add,show L+(52 - L)=52 by omega] at h1
    exact h1
   have k2:n*2 ^ (52 - L)<9007199254740992:=by
    have h1:n*2 ^ (52 - L)<2 ^ (L+1)*2 ^ (52 - L):=Nat.mul_lt_mul_of_pos_right b2 (Nat.pow_pos (by decide))
    rw[←Nat.pow_add,show L+1+(52 - L)=53 by omega] at h1
    exact h1
   refine ⟨n*2 ^ (52 - L),(L:Int) - 52,?_,by omega,fun b h1 h2=>?_⟩
   ·unfold Ieee.Format.nearest
    rw[if_neg h0]
    simp only [last]
    have e1:((0:Int) - ((L:Int) - 52)).toNat=52 - L:=by omega
    have e2:(((L:Int) - 52) - 0).toNat=0:=by omega
    rw[e1,e2,zsQ,kd,hbi,hle,hinf]
    have e3:(((L:Int) - 52) - -1074).toNat=L+1022:=by omega
    rw[e3,Nat.min_eq_left (by omega)]
    obtain ⟨K,hK⟩:∃K,K=n*2 ^ (52 - L):=⟨_,rfl⟩
    rw[←hK] at k1 k2 ⊢
    have h:=zqC (neg:=neg) (r:=(L+1022)*4503599627370496+K) (k:=K - 4503599627370496) (by omega) (L+1023) (by omega) (by omega) (by omega)
    have e4:4503599627370496+(K - 4503599627370496)=K:=by omega
    have e5:(-1074:Int)+((L+1023 - 1:Nat):Int)=(L:Int) - 52:=by omega
    rw[e4,e5] at h
    exact h
   ·have e:((0:Int) - b).toNat=((L:Int) - 52 - b).toNat+(52 - L):=by omega
    rw[e]
    unfold Ieee.signed
    have:n<<<(((L:Int) - 52 - b).toNat+(52 - L))=(n*2 ^ (52 - L))<<<((L:Int) - 52 - b).toNat:=by
     rw[Nat.shiftLeft_eq,Nat.shiftLeft_eq,Nat.pow_add,Nat.mul_assoc,Nat.mul_comm (2 ^ _)]
    rw[this]
theorem zkL (n:Int)(h: -9007199254740992≤n∧n≤9007199254740992):∃s m i,FloatKind.f64.format.read (zgt n)= .number s m i∧i≤1∧∀b:Int,b≤i→b≤0→Ieee.signed s m (i - b).toNat=n*((2 ^ (0 - b).toNat:Nat):Int):=by
 obtain ⟨m,i,h1,h2,h3⟩:=zoo (decide (n<0)) n.natAbs (by omega)
 refine ⟨decide (n<0),m,i,?_,h2,fun b hb hb0=>?_⟩
 ·rw[←h1];rfl
 ·rw[h3 b hb hb0]
  unfold Ieee.signed
  rw[Nat.shiftLeft_eq]
  by_cases hn:n<0
  ·simp only [hn,decide_true,if_true]
   rw[Int.natCast_mul,←Int.neg_mul]
   congr 1;omega
  ·simp only [hn,decide_false,Bool.false_eq_true,if_false]
   rw[Int.natCast_mul]
   congr 1;omega
theorem zop (n k:Int)(hn: -9007199254740992≤n∧n≤9007199254740992)(hk: -9007199254740992≤k∧k≤9007199254740992):zaP (zgt n) (zgt k)=zB n k:=by
 obtain ⟨s,m,i,h1,h2,h3⟩:=zkL n hn
 obtain ⟨t,q,j,g1,g2,g3⟩:=zkL k hk
 rw[zkK h1 g1 (b:=min (min i j) 0) (by omega) (by omega),h3 _ (by omega) (by omega),g3 _ (by omega) (by omega)]
 exact zm2 _ _ _ (Nat.pow_pos (by decide))
end Go.Smd
end
