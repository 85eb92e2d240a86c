/- Part 26. -/
import Derived.Test.YtdgnolbdcmgfoaaGreatQD24
import Derived.Test.YtdgnolbdcmgfoaaGreatQD21
set_option linter.unusedVariables false
set_option linter.unusedSimpArgs false
set_option maxRecDepth 100000
set_option maxHeartbeats 8000000
section
namespace Go.Smd
open Go.RowKit Go.Proofs Go.Proofs.Tryz
def zcb (p q:ByteArray×GV):Int:=if zbu p.1 q.1≠0 then zbu p.1 q.1 else zan (zL p.2) (zL q.2)
theorem ziA (k:Int)(s:ByteArray)(keys:List ByteArray)(l:List GV)(a b:Int)(c:Nat)(d:ByteArray)(e:List ByteArray)(f:List GV)(n:Int)(k':Int)(s':ByteArray)(keys':List ByteArray)(l':List GV)(a' b':Int)(c':Nat)(d':ByteArray)(e':List ByteArray)(f':List GV)(n':Int)(hk:keys.length*16≤140737488351232)(hl:l.length*88≤140737488351232)(hk':keys'.length*16≤140737488351232)(hl':l'.length*88≤140737488351232):
  ACalls prog 123 [evX k s keys l a b c d e f n,evX k' s' keys' l' a' b' c' d' e' f' n'] (fun r=>r=aI (zC zcb (keys.zip l) (keys'.zip l'))):=by
 refine zf [(4,([10],[(0,[]),(1,[]),(2,[]),(3,[]),(4,[]),(5,[]),(6,[]),(7,[]),(8,[]),(9,[]),(10,[]),(11,[])])),(7,([10],[(0,[]),(1,[]),(2,[]),(3,[]),(4,[]),(5,[]),(6,[]),(7,[]),(8,[]),(9,[]),(10,[]),(11,[])]))] func123 (by kernel_rfl) rfl ntmps123 results123 (Nat.le_of_ble_eq_true (by kernel_rfl)) ?_;intro hok w0 S0
 clear hok
 have b1:keys.length≤9223372036854775807:=by omega
 have b2:l.length≤9223372036854775807:=by omega
 have b3:keys'.length≤9223372036854775807:=by omega
 have b4:l'.length≤9223372036854775807:=by omega
 obtain ⟨m,hm⟩:∃m:Nat,m=min keys.length l.length:=⟨_,rfl⟩
 have hmin:min (keys.length:Int) (l.length:Int)=(m:Int):=by omega
 obtain ⟨m',hm'⟩:∃m':Nat,m'=min keys'.length l'.length:=⟨_,rfl⟩
 have hmin':min (keys'.length:Int) (l'.length:Int)=(m':Int):=by omega
 have z1:(keys.zip l).length=m:=by simp [hm]
 have z2:(keys'.zip l').length=m':=by simp [hm']
 have hcc:=Zk (m:Int) m'
 (repeat' (first|(with_reducible first|refine zj (fun _=>?_) (fun _=>?_)|refine zi (fun _=>?_) (fun _=>?_)|refine zk zb (by kernel_rfl) ?_|exact za rfl)|(simp -dsimp)));(all_goals try with_reducible refine za ?_)
 refine zF (fun i:Nat=>⟨[(2,.c (.own 2 0)),(3,.c (.own 3 0)),(5,aI i)],[(3,.cells [.d (dI k'),.d (dS s'),.d (ZS keys'),.d (zaD l'),.d (dI a'),.d (dI b'),.d (dF c'),.d (dS d'),.d (ZS e'),.d (zaD f'),.d (dI n')] 29),(2,.cells [.d (dI k),.d (dS s),.d (ZS keys),.d (zaD l),.d (dI a),.d (dI b),.d (dF c),.d (dS d),.d (ZS e),.d (zaD f),.d (dI n)] 29)]⟩) (fun i=>i≤m∧i≤m'∧zC zcb (keys.zip l) (keys'.zip l')=zC zcb ((keys.zip l).drop i) ((keys'.zip l').drop i)) (fun i=>m - i) 0 ?_ ⟨Nat.zero_le _,Nat.zero_le _,rfl⟩ ?_
 ·exact Weak.same (by simp -dsimp) (by simp -dsimp) (by first|rfl|(simp [zg,Av.ids,Ow.ids,Cl.ids,Go.Smd.keys];done))
 ·rintro i ⟨hi,hj,heq⟩ K hK
  have hw:IntKind.wrap .i64 ((i:Int)+1)=((i+1:Nat):Int):=by rw[zq]<;>omega
  have hend:¬(i<m∧i<m')→zC zcb (keys.zip l) (keys'.zip l')=zA (m:Int) m':=fun h=>by
   have:=heq.trans (zeG (by omega) (by omega) fun h'=>h (by omega))
   rwa[z1,z2] at this
  by_cases h1:i<keys.length
  ·by_cases h2:i<l.length
   ·by_cases h3:i<keys'.length
    ·by_cases h4:i<l'.length
     ·have hc:=heq.trans (zjY (by omega) (by omega))
      have e1:(keys.zip l)[i]'(by omega)=(keys[i],l[i]):=by simp
      have e2:(keys'.zip l')[i]'(by omega)=(keys'[i],l'[i]):=by simp
      rw[e1,e2] at hc
      have hs:=zbC keys[i] keys'[i]
      have hv:=zdH l[i] l'[i]
      by_cases hy:zbu keys[i] keys'[i]=0
      ·have hf:zcb (keys[i],l[i]) (keys'[i],l'[i])=zan (zL l[i]) (zL l'[i]):=by unfold zcb;rw[if_neg (by simpa using hy)]
       rw[hf] at hc
       rw[hy] at hs
       by_cases hz:zan (zL l[i]) (zL l'[i])=0
       ·rw[if_neg (by simpa using hz)] at hc
        rw[hz] at hv
        (repeat' (first|(with_reducible first|refine zj (fun _=>?_) (fun _=>?_)|refine zi (fun _=>?_) (fun _=>?_)|refine zl (hs) (by first|rfl|(simp -dsimp [hw,b1,b2,b3,b4,h1,h2,h3,h4,zag];done)) ?_|(refine zx (hs) rfl ?_ ?_ ?_;iterate 2 exact by first|rfl|(simp -dsimp [hw,b1,b2,b3,b4,h1,h2,h3,h4,zag];done))|refine zl (hv) (by first|rfl|(simp -dsimp [hw,b1,b2,b3,b4,h1,h2,h3,h4,zag];done)) ?_|(refine zx (hv) rfl ?_ ?_ ?_;iterate 2 exact by first|rfl|(simp -dsimp [hw,b1,b2,b3,b4,h1,h2,h3,h4,zag];done))|refine zk zb (by kernel_rfl) ?_|exact za rfl)|(simp -dsimp [hw,b1,b2,b3,b4,h1,h2,h3,h4,zag])));(all_goals try with_reducible refine za ?_)
        refine hK _ (i+1) ?_ ⟨by omega,by omega,hc⟩ (by omega)
        exact Weak.same (by simp -dsimp) (by simp -dsimp) (by first|rfl|(simp [zg,Av.ids,Ow.ids,Cl.ids,Go.Smd.keys];done))
       ·rw[if_pos hz] at hc
        (repeat' (first|(with_reducible first|refine zj (fun _=>?_) (fun _=>?_)|refine zi (fun _=>?_) (fun _=>?_)|refine zl (hs) (by first|rfl|(simp -dsimp [hw,b1,b2,b3,b4,h1,h2,h3,h4,hz,zag];done)) ?_|(refine zx (hs) rfl ?_ ?_ ?_;iterate 2 exact by first|rfl|(simp -dsimp [hw,b1,b2,b3,b4,h1,h2,h3,h4,hz,zag];done))|refine zl (hv) (by first|rfl|(simp -dsimp [hw,b1,b2,b3,b4,h1,h2,h3,h4,hz,zag];done)) ?_|(refine zx (hv) rfl ?_ ?_ ?_;iterate 2 exact by first|rfl|(simp -dsimp [hw,b1,b2,b3,b4,h1,h2,h3,h4,hz,zag];done))|refine zk zb (by kernel_rfl) ?_|exact za rfl)|(simp -dsimp [hw,b1,b2,b3,b4,h1,h2,h3,h4,hz,zag])));(all_goals try with_reducible refine za ?_)
        rw[hc]
      ·have hf:zcb (keys[i],l[i]) (keys'[i],l'[i])=zbu keys[i] keys'[i]:=by unfold zcb;rw[if_pos hy]
       rw[hf,if_pos hy] at hc
       (repeat' (first|(with_reducible first|refine zj (fun _=>?_) (fun _=>?_)|refine zi (fun _=>?_) (fun _=>?_)|refine zl (hs) (by first|rfl|(simp -dsimp [hw,b1,b2,b3,b4,h1,h2,h3,h4,hy,zag];done)) ?_|(refine zx (hs) rfl ?_ ?_ ?_;iterate 2 exact by first|rfl|(simp -dsimp [hw,b1,b2,b3,b4,h1,h2,h3,h4,hy,zag];done))|refine zk zb (by kernel_rfl) ?_|exact za rfl)|(simp -dsimp [hw,b1,b2,b3,b4,h1,h2,h3,h4,hy,zag])));(all_goals try with_reducible refine za ?_)
       rw[hc]
     ·have hc:=hend (by omega)
      (repeat' (first|(with_reducible first|refine zj (fun _=>?_) (fun _=>?_)|refine zi (fun _=>?_) (fun _=>?_)|refine zl (hcc) (by first|rfl|(simp -dsimp [b1,b2,b3,b4,h1,h2,h3,h4,hmin,hmin'];done)) ?_|(refine zx (hcc) rfl ?_ ?_ ?_;iterate 2 exact by first|rfl|(simp -dsimp [b1,b2,b3,b4,h1,h2,h3,h4,hmin,hmin'];done))|refine zk zb (by kernel_rfl) ?_|exact za rfl)|(simp -dsimp [b1,b2,b3,b4,h1,h2,h3,h4,hmin,hmin'])));(all_goals try with_reducible refine za ?_)
      rw[hc]
    ·have hc:=hend (by omega)
     (repeat' (first|(with_reducible first|refine zj (fun _=>?_) (fun _=>?_)|refine zi (fun _=>?_) (fun _=>?_)|refine zl (hcc) (by first|rfl|(simp -dsimp [b1,b2,b3,b4,h1,h2,h3,hmin,hmin'];done)) ?_|(refine zx (hcc) rfl ?_ ?_ ?_;iterate 2 exact by first|rfl|(simp -dsimp [b1,b2,b3,b4,h1,h2,h3,hmin,hmin'];done))|refine zk zb (by kernel_rfl) ?_|exact za rfl)|(simp -dsimp [b1,b2,b3,b4,h1,h2,h3,hmin,hmin'])));(all_goals try with_reducible refine za ?_)
     rw[hc]
   ·have hc:=hend (by omega)
    (repeat' (first|(with_reducible first|refine zj (fun _=>?_) (fun _=>?_)|refine zi (fun _=>?_) (fun _=>?_)|refine zl (hcc) (by first|rfl|(simp -dsimp [b1,b2,b3,b4,h1,h2,hmin,hmin'];done)) ?_|(refine zx (hcc) rfl ?_ ?_ ?_;iterate 2 exact by first|rfl|(simp -dsimp [b1,b2,b3,b4,h1,h2,hmin,hmin'];done))|refine zk zb (by kernel_rfl) ?_|exact za rfl)|(simp -dsimp [b1,b2,b3,b4,h1,h2,hmin,hmin'])));(all_goals try with_reducible refine za ?_)
    rw[hc]
  ·have hc:=hend (by omega)
   (repeat' (first|(with_reducible first|refine zj (fun _=>?_) (fun _=>?_)|refine zi (fun _=>?_) (fun _=>?_)|refine zl (hcc) (by first|rfl|(simp -dsimp [b1,b2,b3,b4,h1,hmin,hmin'];done)) ?_|(refine zx (hcc) rfl ?_ ?_ ?_;iterate 2 exact by first|rfl|(simp -dsimp [b1,b2,b3,b4,h1,hmin,hmin'];done))|refine zk zb (by kernel_rfl) ?_|exact za rfl)|(simp -dsimp [b1,b2,b3,b4,h1,hmin,hmin'])));(all_goals try with_reducible refine za ?_)
   rw[hc]
def zw (e e':EV):Int:=
 if zA (rkE e.k) (rkE e'.k)≠0 then zA (rkE e.k) (rkE e'.k)
 else if rkE e.k=1 then zC zcb (e.keys.zip e.l) (e'.keys.zip e'.l) else if rkE e.k=2 then zan (zL e.v) (zL e'.v) else if rkE e.k=3 then zA e.n e'.n else zbu e.s e'.s
theorem zhe (e e':EV)(h:e.keys.length*16≤140737488351232∧e.l.length*88≤140737488351232)(h':e'.keys.length*16≤140737488351232∧e'.l.length*88≤140737488351232):
  ACalls prog 67 [evA e,evA e'] (fun r=>r=aI (zw e e')):=by
 obtain ⟨k,s,keys,l,⟨a,b,c,d,e,f⟩,n⟩:=e
 obtain ⟨k',s',keys',l',⟨a',b',c',d',e',f'⟩,n'⟩:=e'
 dsimp only at h h'
 rw[zdE,zdE]
 simp only [zw]
 have c1:=zit k s keys l a b c d e f n
 have c2:=zit k' s' keys' l' a' b' c' d' e' f' n'
 obtain ⟨R,hR⟩:∃R,R=rkE k:=⟨_,rfl⟩
 rw[←hR] at c1 ⊢
 have c3:=Zk R (rkE k')
 have c4:=ziA k s keys l a b c d e f n k' s' keys' l' a' b' c' d' e' f' n' h.1 h.2 h'.1 h'.2
 have c5:=zdH (.mk a b c d e f) (.mk a' b' c' d' e' f')
 rw[zdD,zdD] at c5
 have c6:=Zk n n'
 have c7:=zbC s s'
 by_cases hz:zA R (rkE k')=0
 ·rw[hz] at c3
  rw[if_neg (by simpa using hz)]
  refine zf [(1,([3,4],[(0,[]),(2,[]),(1,[]),(3,[]),(4,[]),(5,[])]))] func67 (by kernel_rfl) rfl ntmps67 results67 (Nat.le_of_ble_eq_true (by kernel_rfl)) ?_;intro hok w0 S0
  clear hok
  (repeat' (first|(with_reducible first|refine zj (fun _=>?_) (fun _=>?_)|refine zi (fun _=>?_) (fun _=>?_)|refine zl (c1) (by first|rfl|(simp -dsimp;done)) ?_|(refine zx (c1) rfl ?_ ?_ ?_;iterate 2 exact by first|rfl|(simp -dsimp;done))|refine zl (c2) (by first|rfl|(simp -dsimp;done)) ?_|(refine zx (c2) rfl ?_ ?_ ?_;iterate 2 exact by first|rfl|(simp -dsimp;done))|refine zl (c3) (by first|rfl|(simp -dsimp;done)) ?_|(refine zx (c3) rfl ?_ ?_ ?_;iterate 2 exact by first|rfl|(simp -dsimp;done))|refine zl (c4) (by first|rfl|(simp -dsimp;done)) ?_|(refine zx (c4) rfl ?_ ?_ ?_;iterate 2 exact by first|rfl|(simp -dsimp;done))|refine zl (c5) (by first|rfl|(simp -dsimp;done)) ?_|(refine zx (c5) rfl ?_ ?_ ?_;iterate 2 exact by first|rfl|(simp -dsimp;done))|refine zl (c6) (by first|rfl|(simp -dsimp;done)) ?_|(refine zx (c6) rfl ?_ ?_ ?_;iterate 2 exact by first|rfl|(simp -dsimp;done))|refine zl (c7) (by first|rfl|(simp -dsimp;done)) ?_|(refine zx (c7) rfl ?_ ?_ ?_;iterate 2 exact by first|rfl|(simp -dsimp;done))|refine zk zb (by kernel_rfl) ?_|exact za rfl)|(simp -dsimp)));(all_goals try with_reducible refine za ?_)
  all_goals simp_all
 ·rw[if_pos hz]
  refine zf [(1,([3,4],[(0,[]),(2,[]),(1,[]),(3,[]),(4,[]),(5,[])]))] func67 (by kernel_rfl) rfl ntmps67 results67 (Nat.le_of_ble_eq_true (by kernel_rfl)) ?_;intro hok w0 S0
  clear hok
  (repeat' (first|(with_reducible first|refine zj (fun _=>?_) (fun _=>?_)|refine zi (fun _=>?_) (fun _=>?_)|refine zl (c1) (by first|rfl|(simp -dsimp [hz];done)) ?_|(refine zx (c1) rfl ?_ ?_ ?_;iterate 2 exact by first|rfl|(simp -dsimp [hz];done))|refine zl (c2) (by first|rfl|(simp -dsimp [hz];done)) ?_|(refine zx (c2) rfl ?_ ?_ ?_;iterate 2 exact by first|rfl|(simp -dsimp [hz];done))|refine zl (c3) (by first|rfl|(simp -dsimp [hz];done)) ?_|(refine zx (c3) rfl ?_ ?_ ?_;iterate 2 exact by first|rfl|(simp -dsimp [hz];done))|refine zk zb (by kernel_rfl) ?_|exact za rfl)|(simp -dsimp [hz])));(all_goals try with_reducible refine za ?_)
theorem zrJ {p q:ByteArray×GV}(hp:zaM (Zb p.2))(hq:zaM (Zb q.2)):zeH (p.1,Zb p.2) (q.1,Zb q.2)=zcb p q:=by
 unfold zeH zcb
 rw[zjX _ _ hp hq]
theorem zaP (e e':EV)(h:FitsE e)(h':FitsE e'):ZM (zX e) (zX e')=zw e e':=by
 have h1:zC zeH (zcS e.keys e.l) (zcS e'.keys e'.l)=zC zcb (e.keys.zip e.l) (e'.keys.zip e'.l):=by
  rw[zk8,zk8]
  exact ziy fun x hx y hy=>zrJ (h.zip x hx) (h'.zip y hy)
 have h2:=zjX e.v e'.v h.val h'.val
 unfold zX zw rkE
 by_cases k1:e.k=1
 ·by_cases k1':e'.k=1
  ·simp [k1,k1',ZM,h1,zA]
  ·by_cases k2':e'.k=2
   ·simp [k1,k2',ZM,zA]
   ·by_cases k3':e'.k=3<;>simp [k1,k1',k2',k3',ZM,zA]
 ·by_cases k2:e.k=2
  ·by_cases k1':e'.k=1
   ·simp [k2,k1',ZM,zA]
   ·by_cases k2':e'.k=2
    ·simp [k2,k2',ZM,h2,zA]
    ·by_cases k3':e'.k=3<;>simp [k2,k1',k2',k3',ZM,zA]
  ·by_cases k3:e.k=3
   ·by_cases k1':e'.k=1
    ·simp [k3,k1',ZM,zA]
    ·by_cases k2':e'.k=2
     ·simp [k3,k2',ZM,zA]
     ·by_cases k3':e'.k=3<;>simp [k3,k1',k2',k3',ZM,zA]
   ·by_cases k1':e'.k=1
    ·simp [k1,k2,k3,k1',ZM,zA]
    ·by_cases k2':e'.k=2
     ·simp [k1,k2,k3,k2',ZM,zA]
     ·by_cases k3':e'.k=3<;>simp [k1,k2,k3,k1',k2',k3',ZM,zA]
theorem zhf (l:List GV)(hl:l.length*88≤140737488351232):ACalls prog 65 [.c (.d (zaD l))] (fun r=>r=aV (.bool (l.all Za))):=by
 refine zf [] func65 (by kernel_rfl) rfl ntmps65 results65 (Nat.le_of_ble_eq_true (by kernel_rfl)) ?_;intro hok w0 S0
 clear hok
 have b1:l.length≤9223372036854775807:=by omega
 (repeat' (first|(with_reducible first|refine zj (fun _=>?_) (fun _=>?_)|refine zi (fun _=>?_) (fun _=>?_)|refine zk zb (by kernel_rfl) ?_|exact za rfl)|(simp -dsimp [b1])));(all_goals try with_reducible refine za ?_)
 refine zF (fun i:Nat=>⟨[(5,.c (.d (zaD l))),(6,aI l.length),(7,aI i)],[]⟩) (fun i=>i≤l.length∧(l.take i).all Za=true) (fun i=>l.length - i) 0 ?_ ⟨Nat.zero_le _,rfl⟩ ?_
 ·exact Weak.same (by simp -dsimp) (by simp -dsimp) (by first|rfl|(simp [zg,Av.ids,Ow.ids,Cl.ids,Go.Smd.keys];done))
 ·rintro i ⟨hi,hall⟩ K hK
  by_cases hlt:i<l.length
  ·have hw:IntKind.wrap .i64 ((i:Int)+1)=((i+1:Nat):Int):=by rw[zq]<;>omega
   have ho:=zjR l[i]
   by_cases hz:Za l[i]=true
   ·rw[hz] at ho
    (repeat' (first|(with_reducible first|refine zj (fun _=>?_) (fun _=>?_)|refine zi (fun _=>?_) (fun _=>?_)|refine zl (ho) (by first|rfl|(simp -dsimp [b1,hlt,hw];done)) ?_|refine zk zb (by kernel_rfl) ?_|exact za rfl)|(simp -dsimp [b1,hlt,hw])));(all_goals try with_reducible refine za ?_)
    refine hK _ (i+1) ?_ ⟨by omega,by rw[List.take_succ_eq_append_getElem hlt,List.all_append,hall];simp [hz]⟩ (by omega)
    exact Weak.same (by simp -dsimp) (by simp -dsimp) (by first|rfl|(simp [zg,Av.ids,Ow.ids,Cl.ids,Go.Smd.keys];done))
   ·have hz:Za l[i]=false:=by simpa using hz
    rw[hz] at ho
    (repeat' (first|(with_reducible first|refine zj (fun _=>?_) (fun _=>?_)|refine zi (fun _=>?_) (fun _=>?_)|refine zl (ho) (by first|rfl|(simp -dsimp [b1,hlt,hw];done)) ?_|refine zk zb (by kernel_rfl) ?_|exact za rfl)|(simp -dsimp [b1,hlt,hw])));(all_goals try with_reducible refine za ?_)
    have:l.all Za=false:=by
     rw[Bool.eq_false_iff]
     intro h
     have:=List.all_eq_true.1 h _ (List.getElem_mem hlt)
     rw[hz] at this;cases this
    rw[this]
  ·have e:l.take i=l:=List.take_of_length_le (by omega)
   rw[e] at hall
   rw[hall]
   (repeat' (first|(with_reducible first|refine zj (fun _=>?_) (fun _=>?_)|refine zi (fun _=>?_) (fun _=>?_)|refine zk zb (by kernel_rfl) ?_|exact za rfl)|(simp -dsimp [hlt])));(all_goals try with_reducible refine za ?_)
structure Ord3 {α:Type} (O:α→Prop) (c:α→α→Int):Prop where
 anti:∀x y,O x→O y→c y x= - c x y
 trans:∀x y z,O x→O y→O z→c x y≤0→c y z≤0→c x z≤0
section
variable {α:Type} {O:α→Prop} {c d:α→α→Int}
theorem Ord3.refl (h:Ord3 O c){x:α}(hx:O x):c x x=0:=by have:=h.anti x x hx hx;omega
theorem Ord3.lt_le (h:Ord3 O c){x y z:α}(hx:O x)(hy:O y)(hz:O z)(h1:c x y<0)(h2:c y z≤0):c x z<0:=by
 apply Classical.byContradiction
 intro hn
 have h3:=h.anti x z hx hz
 have h4:=h.trans y z x hy hz hx h2 (by omega)
 have h5:=h.anti x y hx hy
 omega
theorem Ord3.le_lt (h:Ord3 O c){x y z:α}(hx:O x)(hy:O y)(hz:O z)(h1:c x y≤0)(h2:c y z<0):c x z<0:=by
 apply Classical.byContradiction
 intro hn
 have h3:=h.anti x z hx hz
 have h4:=h.trans z x y hz hx hy (by omega) h1
 have h5:=h.anti y z hy hz
 omega
theorem Ord3.eq_trans (h:Ord3 O c){x y z:α}(hx:O x)(hy:O y)(hz:O z)(h1:c x y=0)(h2:c y z=0):c x z=0:=by
 have h3:=h.trans x y z hx hy hz (by omega) (by omega)
 have a1:=h.anti x y hx hy
 have a2:=h.anti y z hy hz
 have h4:=h.trans z y x hz hy hx (by omega) (by omega)
 have a3:=h.anti x z hx hz
 omega
theorem Ord3.mono {O':α→Prop}(h:Ord3 O c)(k:∀x,O' x→O x):Ord3 O' c:=⟨fun x y hx hy=>h.anti x y (k x hx) (k y hy),fun x y z hx hy hz=>h.trans x y z (k x hx) (k y hy) (k z hz)⟩
theorem Ord3.congr (h:Ord3 O c)(k:∀x y,O x→O y→d x y=c x y):Ord3 O d:=
 ⟨fun x y hx hy=>by rw[k x y hx hy,k y x hy hx];exact h.anti x y hx hy,fun x y z hx hy hz=>by rw[k x y hx hy,k y z hy hz,k x z hx hz];exact h.trans x y z hx hy hz⟩
theorem Ord3.comap {β:Type}(h:Ord3 O c)(f:β→α):Ord3 (fun x=>O (f x)) (fun x y=>c (f x) (f y)):=⟨fun x y hx hy=>h.anti _ _ hx hy,fun x y z hx hy hz=>h.trans _ _ _ hx hy hz⟩
theorem Ord3.lex (h:Ord3 O c)(ha:∀x y,O x→O y→c x y=0→d y x= - d x y)(ht:∀x y z,O x→O y→O z→c x y=0→c y z=0→d x y≤0→d y z≤0→d x z≤0):Ord3 O (fun x y=>if c x y≠0 then c x y else d x y):=by
 refine ⟨fun x y hx hy=>?_,fun x y z hx hy hz h1 h2=>?_⟩
 ·have a:=h.anti x y hx hy
  by_cases e:c x y=0
  ·rw[if_neg (by omega),if_neg (by omega)];exact ha x y hx hy e
  ·rw[if_pos (by omega),if_pos e];exact a
 ·try dsimp only at h1 h2 ⊢
  by_cases e1:c x y=0
  ·rw[if_neg (by omega)] at h1
   by_cases e2:c y z=0
   ·rw[if_neg (by omega)] at h2
    have e3:=h.eq_trans hx hy hz e1 e2
    rw[if_neg (by omega)]
    exact ht x y z hx hy hz e1 e2 h1 h2
   ·rw[if_pos e2] at h2
    have:=h.le_lt hx hy hz (by omega) (show c y z<0 by omega)
    rw[if_pos (by omega)];omega
  ·rw[if_pos e1] at h1
   have h2':c y z≤0:=by
    by_cases e2:c y z=0
    ·omega
    ·rw[if_pos e2] at h2;exact h2
   have:=h.lt_le hx hy hz (show c x y<0 by omega) h2'
   rw[if_pos (by omega)];omega
theorem Ord3.row (h:Ord3 O c):Ord3 (fun l:List α=>∀x∈l,O x) (zC c):=by
 have anti:∀l m:List α,(∀x∈l,O x)→(∀x∈m,O x)→zC c m l= - zC c l m:=by
  intro l
  induction l with
  |nil=>intro m _ _;cases m<;>simp [zC]
  |cons x l ih=>
   intro m hl hm
   cases m with
   |nil=>simp [zC]
   |cons y m=>
    have a:=h.anti x y (hl x (List.mem_cons_self ..)) (hm y (List.mem_cons_self ..))
    have i:=ih m (fun a ha=>hl a (List.mem_cons_of_mem _ ha)) fun a ha=>hm a (List.mem_cons_of_mem _ ha)
    simp only [zC]
    by_cases e:c x y=0
    ·rw[if_neg (by omega),if_neg (by omega)];exact i
    ·rw[if_pos (by omega),if_pos e];exact a
 refine ⟨anti,fun l=>?_⟩
 induction l with
 |nil=>intro m n _ _ _ _ h2;cases n<;>simp [zC]
 |cons x l ih=>
  intro m n hl hm hn h1 h2
  cases m with
  |nil=>simp [zC] at h1
  |cons y m=>cases n with
   |nil=>simp [zC] at h2
   |cons z n=>
    have hx:=hl x (List.mem_cons_self ..)
    have hy:=hm y (List.mem_cons_self ..)
    have hz:=hn z (List.mem_cons_self ..)
    have i:=ih m n (fun a ha=>hl a (List.mem_cons_of_mem _ ha)) (fun a ha=>hm a (List.mem_cons_of_mem _ ha)) (fun a ha=>hn a (List.mem_cons_of_mem _ ha))
    simp only [zC] at h1 h2 ⊢
    by_cases e1:c x y=0
    ·rw[if_neg (by omega)] at h1
     by_cases e2:c y z=0
     ·rw[if_neg (by omega)] at h2
      have e3:=h.eq_trans hx hy hz e1 e2
      rw[if_neg (by omega)]
      exact i h1 h2
     ·rw[if_pos e2] at h2
      have:=h.le_lt hx hy hz (by omega) (show c y z<0 by omega)
      rw[if_pos (by omega)];omega
    ·rw[if_pos e1] at h1
     have h2':c y z≤0:=by
      by_cases e2:c y z=0
      ·omega
      ·rw[if_pos e2] at h2;exact h2
     have:=h.lt_le hx hy hz (show c x y<0 by omega) h2'
     rw[if_pos (by omega)];omega
theorem zb7:Ord3 (fun _:Int=>True) zA:=by
 refine ⟨fun x y _ _=>?_,fun x y z _ _ _=>?_⟩
 ·unfold zA;repeat' split
  all_goals omega
 ·unfold zA;repeat' split
  all_goals omega
theorem zf0:∀l m:List UInt8,Lib.compareBytes l m=zC (fun a b=>zA (a.toNat:Int) b.toNat) l m
 | [],[]=>rfl
 | [],_::_=>rfl
 |_::_,[]=>rfl
 |a::l,b::m=>by
  rw[zcs]
  simp only [zC]
  by_cases e:a=b
  ·subst e;rw[if_pos rfl,zjV,if_neg (by simp)];exact zf0 l m
  ·have:zA (a.toNat:Int) b.toNat≠0:=by
    intro h
    refine e (UInt8.toNat_inj.1 ?_)
    unfold zA at h
    split at h
    ·omega
    ·split at h<;>omega
   rw[if_neg e,if_pos this]
theorem zf1:Ord3 (fun _:ByteArray=>True) zbu:=by
 have h:=((zb7.comap (fun a:UInt8=>(a.toNat:Int))).row).comap (fun s:ByteArray=>s.data.toList)
 exact (h.mono fun x _ a _=>trivial).congr fun x y _ _=>zf0 _ _
end
def zj5 (b:Int):Ieee.Datum→Int
 | .number s m i=>Ieee.signed s m (i - b).toNat
 | .infinity _=>0
 | .nan _ _=>0
def zeb:Ieee.Datum→Int
 | .infinity s=>if s then -1 else 1
 |_=>0
def zdk:Ieee.Datum→Int
 | .number _ _ i=>i
 |_=>0
theorem zec (s:Bool)(m k t:Nat):Ieee.signed s m (k+t)=Ieee.signed s m k*((2 ^ t:Nat):Int):=by
 unfold Ieee.signed
 have:m<<<(k+t)=(m<<<k)*2 ^ t:=by rw[Nat.shiftLeft_eq,Nat.shiftLeft_eq,Nat.pow_add,Nat.mul_assoc]
 cases s
 ·simp only [Bool.false_eq_true,if_false,this];rw[Int.natCast_mul]
 ·simp only [if_true,this];rw[Int.natCast_mul,Int.neg_mul]
theorem zmj (a b:Int)(t:Nat)(ht:0<t):zA (a*(t:Int)) (b*(t:Int))=zA a b:=by
 have hp:(0:Int)<t:=by omega
 unfold zA
 rcases Int.lt_trichotomy a b with h|h|h
 ·have:=Int.mul_lt_mul_of_pos_right h hp
  rw[if_neg (by omega),if_pos this,if_neg (by omega),if_pos h]
 ·subst h;rw[if_neg (by omega),if_neg (by omega),if_neg (by omega),if_neg (by omega)]
 ·have:=Int.mul_lt_mul_of_pos_right h hp
  rw[if_pos this,if_pos h]
theorem zj6 {x y:Nat}{s t:Bool}{m n:Nat}{i j b:Int}(hx:FloatKind.f64.format.read x= .number s m i)(hy:FloatKind.f64.format.read y= .number t n j)(hi:b≤i)(hj:b≤j):zaO x y=zA (Ieee.signed s m (i - b).toNat) (Ieee.signed t n (j - b).toNat):=by
 have e1:(i - b).toNat=(i - min i j).toNat+(min i j - b).toNat:=by omega
 have e2:(j - b).toNat=(j - min i j).toNat+(min i j - b).toNat:=by omega
 rw[e1,e2,zec,zec,zmj _ _ _ (Nat.pow_pos (by decide))]
 have ho:FloatKind.f64.format.order x y=some (compare (Ieee.signed s m (i - min i j).toNat) (Ieee.signed t n (j - min i j).toNat)):=by
  unfold Ieee.Format.order;rw[hx,hy];rfl
 rcases Int.lt_trichotomy (Ieee.signed s m (i - min i j).toNat) (Ieee.signed t n (j - min i j).toNat) with h|h|h
 ·have hc:compare (Ieee.signed s m (i - min i j).toNat) (Ieee.signed t n (j - min i j).toNat)= .lt:=Std.compare_eq_lt.2 h
  have r:zA (Ieee.signed s m (i - min i j).toNat) (Ieee.signed t n (j - min i j).toNat)= -1:=by unfold zA;rw[if_neg (by omega),if_pos h]
  rw[r];unfold zaO;rw[ho,hc];rfl
 ·have hc:compare (Ieee.signed s m (i - min i j).toNat) (Ieee.signed t n (j - min i j).toNat)= .eq:=Std.compare_eq_iff_eq.2 h
  have r:zA (Ieee.signed s m (i - min i j).toNat) (Ieee.signed t n (j - min i j).toNat)=0:=by unfold zA;rw[if_neg (by omega),if_neg (by omega)]
  rw[r];unfold zaO;rw[ho,hc];rfl
 ·have hc:compare (Ieee.signed s m (i - min i j).toNat) (Ieee.signed t n (j - min i j).toNat)= .gt:=Std.compare_eq_gt.2 h
  have r:zA (Ieee.signed s m (i - min i j).toNat) (Ieee.signed t n (j - min i j).toNat)=1:=by unfold zA;rw[if_pos h]
  rw[r];unfold zaO;rw[ho,hc];rfl
theorem znu {x y:Nat}(hx:(FloatKind.f64.format.read x).isNaN=false)(hy:(FloatKind.f64.format.read y).isNaN=false){b:Int}(hi:b≤zdk (FloatKind.f64.format.read x))(hj:b≤zdk (FloatKind.f64.format.read y)):
  zaO x y=if zA (zeb (FloatKind.f64.format.read x)) (zeb (FloatKind.f64.format.read y))≠0 then zA (zeb (FloatKind.f64.format.read x)) (zeb (FloatKind.f64.format.read y)) else zA (zj5 b (FloatKind.f64.format.read x)) (zj5 b (FloatKind.f64.format.read y)):=by
 cases ex:FloatKind.f64.format.read x with
 |nan s t=>rw[ex] at hx;cases hx
 |infinity s=>cases ey:FloatKind.f64.format.read y with
  |nan s t=>rw[ey] at hy;cases hy
  |infinity t=>
   have ho:FloatKind.f64.format.order x y=some (compare t.toNat s.toNat):=by unfold Ieee.Format.order;rw[ex,ey];rfl
   unfold zaO;rw[ho]
   cases s<;>cases t<;>simp only [zeb,zj5]<;>decide
  |number t n j=>
   have ho:FloatKind.f64.format.order x y=some (if s then .lt else .gt):=by unfold Ieee.Format.order;rw[ex,ey];rfl
   unfold zaO;rw[ho]
   cases s<;>simp [zeb,zA]
 |number s m i=>cases ey:FloatKind.f64.format.read y with
  |nan s t=>rw[ey] at hy;cases hy
  |infinity t=>
   have ho:FloatKind.f64.format.order x y=some (if t then .gt else .lt):=by unfold Ieee.Format.order;rw[ex,ey];rfl
   unfold zaO;rw[ho]
   cases t<;>simp [zeb,zA]
  |number t n j=>
   rw[ex] at hi;rw[ey] at hj
   rw[zj6 ex ey (b:=b) hi hj]
   simp [zeb,zj5,zjV]
theorem zpB:Ord3 (fun x:Nat=>(FloatKind.f64.format.read x).isNaN=false) zaO:=by
 have key:∀b:Int,Ord3 (fun x:Nat=>(FloatKind.f64.format.read x).isNaN=false∧b≤zdk (FloatKind.f64.format.read x)) zaO:=fun b=>by
  refine Ord3.congr (Ord3.lex (((zb7.comap fun x:Nat=>zeb (FloatKind.f64.format.read x))).mono fun _ _=>trivial) (d:=fun x y=>zA (zj5 b (FloatKind.f64.format.read x)) (zj5 b (FloatKind.f64.format.read y))) (fun x y _ _ _=>zb7.anti _ _ trivial trivial) fun x y z _ _ _ _ _=>zb7.trans _ _ _ trivial trivial trivial) fun x y hx hy=>?_
  exact znu hx.1 hy.1 hx.2 hy.2
 refine ⟨fun x y hx hy=>(key (min (zdk (FloatKind.f64.format.read x)) (zdk (FloatKind.f64.format.read y)))).anti x y ⟨hx,by omega⟩ ⟨hy,by omega⟩,fun x y z hx hy hz=>?_⟩
 exact (key (min (zdk (FloatKind.f64.format.read x)) (min (zdk (FloatKind.f64.format.read y)) (zdk (FloatKind.f64.format.read z))))).trans x y z ⟨hx,by omega⟩ ⟨hy,by omega⟩ ⟨hz,by omega⟩
theorem zmk {n:Nat}(h:n≠0):2 ^ n.log2≤n∧n<2 ^ (n.log2+1):=⟨Nat.log2_self_le h,Nat.lt_log2_self⟩
theorem zrK (neg:Bool)(n:Nat):Ieee.Toward.even.cut neg n 0=n:=by
 unfold Ieee.Toward.cut
 simp [Nat.mod_one]
theorem zpC {neg:Bool}{r k:Nat}(hk:k<4503599627370496)(q:Nat)(hq:1≤q)(hq2:q<2047)(hr:r=q*4503599627370496+k):Ieee.double.read (Ieee.double.word neg r)= .number neg (4503599627370496+k) (-1074+((q - 1:Nat):Int)):=by
 have hinf:Ieee.double.infRung=9218868437227405312:=by decide+kernel
 have hsw:Ieee.double.signWeight=9223372036854775808:=by decide+kernel
 have hbi:Ieee.double.binade=4503599627370496:=by decide+kernel
 have hle:Ieee.double.leastPlace= -1074:=by decide+kernel
 have hlt:r<9218868437227405312:=by omega
 have hm:Ieee.double.word neg r % Ieee.double.signWeight=r:=by
  rw[hsw];unfold Ieee.Format.word;rw[hsw];split<;>omega
 have hneg:(Ieee.double.word neg r / Ieee.double.signWeight % 2==1)=neg:=by
  rw[hsw];unfold Ieee.Format.word;rw[hsw]
  cases neg
  ·simp only [Bool.false_eq_true,if_false]
   have:r / 9223372036854775808=0:=Nat.div_eq_of_lt (by omega)
   rw[this];rfl
  ·simp only [if_true]
   have:(9223372036854775808+r) / 9223372036854775808=1:=by omega
   rw[this];rfl
 unfold Ieee.Format.read
 simp only [hm,hneg,hbi,hinf,hle]
 have e1:r % 4503599627370496=k:=by omega
 have e2:r / 4503599627370496=q:=by omega
 rw[if_neg (by omega),if_pos hlt,e1,e2]
theorem znv (neg:Bool)(n:Nat)(hn:n≤9007199254740992):∃m i,Ieee.double.read (Ieee.double.nearest neg n 0)= .number neg m i∧i≤1∧∀b:Int,b≤i→b≤0→Ieee.signed neg m (i - b).toNat=Ieee.signed neg n (0 - b).toNat:=by
 have hbi:Ieee.double.binade=4503599627370496:=by decide+kernel
 have hle:Ieee.double.leastPlace= -1074:=by decide+kernel
 have hinf:Ieee.double.infRung=9218868437227405312:=by decide+kernel
 have hfb:Ieee.double.fractionBits=52:=rfl
 by_cases h0:n=0
 ·subst h0
  refine ⟨0, -1074,?_,by omega,fun b _ _=>by cases neg<;>simp [Ieee.signed]⟩
  unfold Ieee.Format.nearest
  rw[if_pos rfl]
  cases neg<;>decide+kernel
 ·by_cases h1:n=9007199254740992
  ·subst h1
   refine ⟨4503599627370496,1,?_,by omega,fun b h1 h2=>?_⟩
   ·cases neg<;>decide+kernel
   ·have e:(1 - b).toNat=(0 - b).toNat+1:=by omega
    rw[e,zec]
    have e2:Ieee.signed neg 9007199254740992 (0 - b).toNat=Ieee.signed neg 4503599627370496 (0 - b).toNat*2:=by
     unfold Ieee.signed
     have:(9007199254740992:Nat)<<<(0 - b).toNat=(4503599627370496<<<(0 - b).toNat)*2:=by rw[Nat.shiftLeft_eq,Nat.shiftLeft_eq];omega
     rw[this]
     cases neg<;>simp<;>omega
    rw[e2];simp
  ·obtain ⟨b1,b2⟩:=zmk h0
   have hL:n.log2≤52:=by
    apply Classical.byContradiction
    intro h
    have:2 ^ 53≤2 ^ n.log2:=Nat.pow_le_pow_right (by decide) (by omega)
    omega
   obtain ⟨L,hLd⟩:∃L,L=n.log2:=⟨_,rfl⟩
   rw[←hLd] at b1 b2 hL
   have last:max ((0:Int)+(n.log2:Int) - (Ieee.double.fractionBits:Int)) Ieee.double.leastPlace=(L:Int) - 52:=by rw[hle,hfb,←hLd];omega
   have kd:n<<<(52 - L)=n*2 ^ (52 - L):=Nat.shiftLeft_eq _ _
   have k1:4503599627370496≤n*2 ^ (52 - L):=by
    have h1:2 ^ L*2 ^ (52 - L)≤n*2 ^ (52 - L):=Nat.mul_le_mul_right _ b1
    rw[←Nat.pow_add,show L+(52 - L)=52 by omega] at h1
    exact h1
   have k2:n*2 ^ (52 - L)<9007199254740992:=by
    have h1:n*2 ^ (52 - L)<2 ^ (L+1)*2 ^ (52 - L):=Nat.mul_lt_mul_of_pos_right b2 (Nat.pow_pos (by decide))
    rw[←Nat.pow_add,show L+1+(52 - L)=53 by omega] at h1
    exact h1
   refine ⟨n*2 ^ (52 - L),(L:Int) - 52,?_,by omega,fun b h1 h2=>?_⟩
   ·unfold Ieee.Format.nearest
    rw[if_neg h0]
    simp only [last]
    have e1:((0:Int) - ((L:Int) - 52)).toNat=52 - L:=by omega
    have e2:(((L:Int) - 52) - 0).toNat=0:=by omega
    rw[e1,e2,zrK,kd,hbi,hle,hinf]
    have e3:(((L:Int) - 52) - -1074).toNat=L+1022:=by omega
    rw[e3,Nat.min_eq_left (by omega)]
    obtain ⟨K,hK⟩:∃K,K=n*2 ^ (52 - L):=⟨_,rfl⟩
    rw[←hK] at k1 k2 ⊢
    have h:=zpC (neg:=neg) (r:=(L+1022)*4503599627370496+K) (k:=K - 4503599627370496) (by omega) (L+1023) (by omega) (by omega) (by omega)
    have e4:4503599627370496+(K - 4503599627370496)=K:=by omega
    have e5:(-1074:Int)+((L+1023 - 1:Nat):Int)=(L:Int) - 52:=by omega
    rw[e4,e5] at h
    exact h
   ·have e:((0:Int) - b).toNat=((L:Int) - 52 - b).toNat+(52 - L):=by omega
    rw[e]
    unfold Ieee.signed
    have:n<<<(((L:Int) - 52 - b).toNat+(52 - L))=(n*2 ^ (52 - L))<<<((L:Int) - 52 - b).toNat:=by
     rw[Nat.shiftLeft_eq,Nat.shiftLeft_eq,Nat.pow_add,Nat.mul_assoc,Nat.mul_comm (2 ^ _)]
    rw[this]
theorem zj7 (n:Int)(h: -9007199254740992≤n∧n≤9007199254740992):∃s m i,FloatKind.f64.format.read (zi8 n)= .number s m i∧i≤1∧∀b:Int,b≤i→b≤0→Ieee.signed s m (i - b).toNat=n*((2 ^ (0 - b).toNat:Nat):Int):=by
 obtain ⟨m,i,h1,h2,h3⟩:=znv (decide (n<0)) n.natAbs (by omega)
 refine ⟨decide (n<0),m,i,?_,h2,fun b hb hb0=>?_⟩
 ·rw[←h1];rfl
 ·rw[h3 b hb hb0]
  unfold Ieee.signed
  rw[Nat.shiftLeft_eq]
  by_cases hn:n<0
  ·simp only [hn,decide_true,if_true]
   rw[Int.natCast_mul,←Int.neg_mul]
   congr 1;omega
  ·simp only [hn,decide_false,Bool.false_eq_true,if_false]
   rw[Int.natCast_mul]
   congr 1;omega
theorem znw (n k:Int)(hn: -9007199254740992≤n∧n≤9007199254740992)(hk: -9007199254740992≤k∧k≤9007199254740992):zaO (zi8 n) (zi8 k)=zA n k:=by
 obtain ⟨s,m,i,h1,h2,h3⟩:=zj7 n hn
 obtain ⟨t,q,j,g1,g2,g3⟩:=zj7 k hk
 rw[zj6 h1 g1 (b:=min (min i j) 0) (by omega) (by omega),h3 _ (by omega) (by omega),g3 _ (by omega) (by omega)]
 exact zmj _ _ _ (Nat.pow_pos (by decide))
end Go.Smd
end
