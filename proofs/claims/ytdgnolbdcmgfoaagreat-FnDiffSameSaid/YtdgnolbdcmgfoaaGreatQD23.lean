/- Part 23. -/
import Derived.Test.YtdgnolbdcmgfoaaGreatQD22
set_option linter.unusedVariables false
set_option linter.unusedSimpArgs false
set_option maxRecDepth 100000
set_option maxHeartbeats 8000000
section
namespace Go.Smd
open Go.RowKit Go.Proofs Go.Proofs.Tryz
inductive okP:GV→Prop
 |mk {k n:Int} {f:Nat} {s:ByteArray} {ks:List ByteArray} {l:List GV} (h:ks.length≤l.length) (hl:∀x∈l,okP x):okP (.mk k n f s ks l)
theorem ztJ {k n:Int}{f:Nat}{s:ByteArray}:okP (.mk k n f s [] []):=.mk (Nat.le_refl _) fun x hx=>by cases hx
theorem zgy (g:GV):okP (zL g):=by
 induction g using GV.ind with
 |h kind n f s keys l IH=>
 have hl:∀x∈cleans l,okP x:=fun x hx=>by
  rw[zau] at hx
  obtain ⟨y,hy,rfl⟩:=List.mem_map.1 hx
  exact IH y hy
 simp only [zL]
 repeat' split
 all_goals first|exact ztJ|skip
 ·exact .mk (by simp) hl
 ·refine .mk (by simp) fun x hx=>?_
  obtain ⟨p,hp,rfl⟩:=List.mem_map.1 hx
  exact zeF keys (cleans l) [] okP hl (by simp) .nil p hp
theorem zpw {l m:List GV}(h:l= []∨m= []):cmpPs l m=zA (l.length:Int) m.length:=by
 cases l with
 |nil=>cases m with
  |nil=>simp [cmpPs,zA]
  |cons y m=>simp only [cmpPs,zA];rw[if_neg (by first|(simp;done)|(simp;omega)),if_pos (by first|(simp;done)|(simp;omega))]
 |cons x l=>cases m with
  |nil=>simp only [cmpPs,zA];rw[if_pos (by first|(simp;done)|(simp;omega))]
  |cons y m=>simp at h
theorem zdG {ks ks':List ByteArray}{l l':List GV}(h:ks= []∨ks'= []):cmpPm ks l ks' l'=zA (ks.length:Int) ks'.length:=by
 rcases h with rfl|rfl
 ·unfold cmpPm;rfl
 ·cases ks<;>cases l<;>simp [cmpPm]
theorem ztK (l m:List GV)(hl:l.length*88≤140737488351232)(hm:m.length*88≤140737488351232)(H:∀x∈l,∀y∈m,ACalls prog 177 [gvA x,gvA y] (fun r=>r=aI (zan x y))):
  ACalls prog 213 [.c (.d (zaD l)),.c (.d (zaD m))] (fun r=>r=aI (cmpPs l m)):=by
 refine zf [(4,([8],[(0,[]),(1,[]),(2,[]),(3,[]),(4,[]),(5,[]),(6,[]),(7,[]),(8,[]),(9,[])]))] func213 (by kernel_rfl) rfl ntmps213 results213 (Nat.le_of_ble_eq_true (by kernel_rfl)) ?_;intro hok w0 S0
 clear hok
 have b1:l.length≤9223372036854775807:=by omega
 have b2:m.length≤9223372036854775807:=by omega
 (repeat' (first|(with_reducible first|refine zj (fun _=>?_) (fun _=>?_)|refine zi (fun _=>?_) (fun _=>?_)|refine zk zb (by kernel_rfl) ?_|exact za rfl)|(simp -dsimp)));(all_goals try with_reducible refine za ?_)
 refine zF (fun i:Nat=>⟨[(0,.c (.d (zaD l))),(1,.c (.d (zaD m))),(5,aI i)],[]⟩) (fun i=>i≤l.length∧i≤m.length∧cmpPs l m=cmpPs (l.drop i) (m.drop i)) (fun i=>l.length - i) 0 ?_ ⟨Nat.zero_le _,Nat.zero_le _,rfl⟩ ?_
 ·exact Weak.same (by simp -dsimp) (by simp -dsimp) (by first|rfl|(simp [zg,Av.ids,Ow.ids,Cl.ids,Go.Smd.keys];done))
 ·rintro i ⟨hi,hj,heq⟩ K hK
  have hw:IntKind.wrap .i64 ((i:Int)+1)=((i+1:Nat):Int):=by rw[zq]<;>omega
  have hcc:=Zk (l.length:Int) m.length
  have hend:¬(i<l.length∧i<m.length)→cmpPs l m=zA (l.length:Int) m.length:=fun h=>by
   rw[heq,zpw (by
    by_cases h1:i<l.length
    ·exact .inr (List.drop_eq_nil_of_le (by omega))
    ·exact .inl (List.drop_eq_nil_of_le (by omega))),List.length_drop,List.length_drop,←zfZ i hi hj]
  by_cases h1:i<l.length
  ·by_cases h2:i<m.length
   ·have hc:cmpPs l m=if zan l[i] m[i]≠0 then zan l[i] m[i] else cmpPs (l.drop (i+1)) (m.drop (i+1)):=by
     rw[heq,List.drop_eq_getElem_cons h1,List.drop_eq_getElem_cons h2];simp only [cmpPs]
    have hx:=H _ (List.getElem_mem h1) _ (List.getElem_mem h2)
    by_cases hz:zan l[i] m[i]=0
    ·rw[if_neg (by simpa using hz)] at hc
     rw[hz] at hx
     (repeat' (first|(with_reducible first|refine zj (fun _=>?_) (fun _=>?_)|refine zi (fun _=>?_) (fun _=>?_)|refine zl (hx) (by first|rfl|(simp -dsimp [hw,b1,b2,h1,h2];done)) ?_|(refine zx (hx) rfl ?_ ?_ ?_;iterate 2 exact by first|rfl|(simp -dsimp [hw,b1,b2,h1,h2];done))|refine zk zb (by kernel_rfl) ?_|exact za rfl)|(simp -dsimp [hw,b1,b2,h1,h2])));(all_goals try with_reducible refine za ?_)
     refine hK _ (i+1) ?_ ⟨by omega,by omega,hc⟩ (by omega)
     exact Weak.same (by simp -dsimp) (by simp -dsimp) (by first|rfl|(simp [zg,Av.ids,Ow.ids,Cl.ids,Go.Smd.keys];done))
    ·rw[if_pos hz] at hc
     (repeat' (first|(with_reducible first|refine zj (fun _=>?_) (fun _=>?_)|refine zi (fun _=>?_) (fun _=>?_)|refine zl (hx) (by first|rfl|(simp -dsimp [hw,b1,b2,h1,h2,hz];done)) ?_|(refine zx (hx) rfl ?_ ?_ ?_;iterate 2 exact by first|rfl|(simp -dsimp [hw,b1,b2,h1,h2,hz];done))|refine zk zb (by kernel_rfl) ?_|exact za rfl)|(simp -dsimp [hw,b1,b2,h1,h2,hz])));(all_goals try with_reducible refine za ?_)
     rw[hc]
   ·have hc:=hend (fun h=>h2 h.2)
    (repeat' (first|(with_reducible first|refine zj (fun _=>?_) (fun _=>?_)|refine zi (fun _=>?_) (fun _=>?_)|refine zl (hcc) (by first|rfl|(simp -dsimp [hw,b1,b2,h1,h2];done)) ?_|(refine zx (hcc) rfl ?_ ?_ ?_;iterate 2 exact by first|rfl|(simp -dsimp [hw,b1,b2,h1,h2];done))|refine zk zb (by kernel_rfl) ?_|exact za rfl)|(simp -dsimp [hw,b1,b2,h1,h2])));(all_goals try with_reducible refine za ?_)
    rw[hc]
  ·have hc:=hend (fun h=>h1 h.1)
   (repeat' (first|(with_reducible first|refine zj (fun _=>?_) (fun _=>?_)|refine zi (fun _=>?_) (fun _=>?_)|refine zl (hcc) (by first|rfl|(simp -dsimp [hw,b1,b2,h1];done)) ?_|(refine zx (hcc) rfl ?_ ?_ ?_;iterate 2 exact by first|rfl|(simp -dsimp [hw,b1,b2,h1];done))|refine zk zb (by kernel_rfl) ?_|exact za rfl)|(simp -dsimp [hw,b1,b2,h1])));(all_goals try with_reducible refine za ?_)
   rw[hc]
theorem ztL (k n:Int)(f:Nat)(s:ByteArray)(ks:List ByteArray)(l:List GV)(k' n':Int)(f':Nat)(s':ByteArray)(ks':List ByteArray)(l':List GV)(hk:ks.length≤l.length)(hk':ks'.length≤l'.length)(hl:l.length*88≤140737488351232)(hl':l'.length*88≤140737488351232)
  (H:∀x∈l,∀y∈l',ACalls prog 177 [gvA x,gvA y] (fun r=>r=aI (zan x y))):
  ACalls prog 214 [gvX k n f s ks l,gvX k' n' f' s' ks' l'] (fun r=>r=aI (cmpPm ks l ks' l')):=by
 refine zf [(4,([10],[(0,[]),(1,[]),(2,[]),(3,[]),(4,[]),(5,[]),(6,[]),(7,[]),(8,[]),(9,[]),(10,[]),(11,[])])),(7,([10],[(0,[]),(1,[]),(2,[]),(3,[]),(4,[]),(5,[]),(6,[]),(7,[]),(8,[]),(9,[]),(10,[]),(11,[])]))] func214 (by kernel_rfl) rfl ntmps214 results214 (Nat.le_of_ble_eq_true (by kernel_rfl)) ?_;intro hok w0 S0
 clear hok
 have b1:l.length≤9223372036854775807:=by omega
 have b2:l'.length≤9223372036854775807:=by omega
 have b3:ks.length≤9223372036854775807:=by omega
 have b4:ks'.length≤9223372036854775807:=by omega
 (repeat' (first|(with_reducible first|refine zj (fun _=>?_) (fun _=>?_)|refine zi (fun _=>?_) (fun _=>?_)|refine zk zb (by kernel_rfl) ?_|exact za rfl)|(simp -dsimp)));(all_goals try with_reducible refine za ?_)
 refine zF (fun i:Nat=>⟨[(2,.c (.own 2 0)),(3,.c (.own 3 0)),(5,aI i)],[(2,.cells [.d (dI k),.d (dI n),.d (dF f),.d (dS s),.d (ZS ks),.d (zaD l)] 27),(3,.cells [.d (dI k'),.d (dI n'),.d (dF f'),.d (dS s'),.d (ZS ks'),.d (zaD l')] 27)]⟩)
  (fun i=>i≤ks.length∧i≤ks'.length∧cmpPm ks l ks' l'=cmpPm (ks.drop i) (l.drop i) (ks'.drop i) (l'.drop i)) (fun i=>ks.length - i) 0 ?_ ⟨Nat.zero_le _,Nat.zero_le _,rfl⟩ ?_
 ·exact Weak.same (by simp -dsimp) (by simp -dsimp) (by first|rfl|(simp [zg,Av.ids,Ow.ids,Cl.ids,Go.Smd.keys];done))
 ·rintro i ⟨hi,hj,heq⟩ K hK
  have hw:IntKind.wrap .i64 ((i:Int)+1)=((i+1:Nat):Int):=by rw[zq]<;>omega
  have hcc:=Zk (ks.length:Int) ks'.length
  have hend:¬(i<ks.length∧i<ks'.length)→cmpPm ks l ks' l'=zA (ks.length:Int) ks'.length:=fun h=>by
   rw[heq,zdG (by
    by_cases h1:i<ks.length
    ·exact .inr (List.drop_eq_nil_of_le (by omega))
    ·exact .inl (List.drop_eq_nil_of_le (by omega))),List.length_drop,List.length_drop,←zfZ i hi hj]
  by_cases h1:i<ks.length
  ·by_cases h2:i<ks'.length
   ·have h3:i<l.length:=by omega
    have h4:i<l'.length:=by omega
    have hc:cmpPm ks l ks' l'=if zbu ks[i] ks'[i]≠0 then zbu ks[i] ks'[i] else if zan l[i] l'[i]≠0 then zan l[i] l'[i] else cmpPm (ks.drop (i+1)) (l.drop (i+1)) (ks'.drop (i+1)) (l'.drop (i+1)):=by
     rw[heq,List.drop_eq_getElem_cons h1,List.drop_eq_getElem_cons h2,List.drop_eq_getElem_cons h3,List.drop_eq_getElem_cons h4];simp only [cmpPm]
    have hx:=H _ (List.getElem_mem h3) _ (List.getElem_mem h4)
    have hs:=zbC ks[i] ks'[i]
    by_cases hy:zbu ks[i] ks'[i]=0
    ·rw[if_neg (by simpa using hy)] at hc
     rw[hy] at hs
     by_cases hz:zan l[i] l'[i]=0
     ·rw[if_neg (by simpa using hz)] at hc
      rw[hz] at hx
      (repeat' (first|(with_reducible first|refine zj (fun _=>?_) (fun _=>?_)|refine zi (fun _=>?_) (fun _=>?_)|refine zl (hx) (by first|rfl|(simp -dsimp [hw,b1,b2,b3,b4,h1,h2,h3,h4,zag];done)) ?_|(refine zx (hx) rfl ?_ ?_ ?_;iterate 2 exact by first|rfl|(simp -dsimp [hw,b1,b2,b3,b4,h1,h2,h3,h4,zag];done))|refine zl (hs) (by first|rfl|(simp -dsimp [hw,b1,b2,b3,b4,h1,h2,h3,h4,zag];done)) ?_|(refine zx (hs) rfl ?_ ?_ ?_;iterate 2 exact by first|rfl|(simp -dsimp [hw,b1,b2,b3,b4,h1,h2,h3,h4,zag];done))|refine zk zb (by kernel_rfl) ?_|exact za rfl)|(simp -dsimp [hw,b1,b2,b3,b4,h1,h2,h3,h4,zag])));(all_goals try with_reducible refine za ?_)
      refine hK _ (i+1) ?_ ⟨by omega,by omega,hc⟩ (by omega)
      exact Weak.same (by simp -dsimp) (by simp -dsimp) (by first|rfl|(simp [zg,Av.ids,Ow.ids,Cl.ids,Go.Smd.keys];done))
     ·rw[if_pos hz] at hc
      (repeat' (first|(with_reducible first|refine zj (fun _=>?_) (fun _=>?_)|refine zi (fun _=>?_) (fun _=>?_)|refine zl (hx) (by first|rfl|(simp -dsimp [hw,b1,b2,b3,b4,h1,h2,h3,h4,hz,zag];done)) ?_|(refine zx (hx) rfl ?_ ?_ ?_;iterate 2 exact by first|rfl|(simp -dsimp [hw,b1,b2,b3,b4,h1,h2,h3,h4,hz,zag];done))|refine zl (hs) (by first|rfl|(simp -dsimp [hw,b1,b2,b3,b4,h1,h2,h3,h4,hz,zag];done)) ?_|(refine zx (hs) rfl ?_ ?_ ?_;iterate 2 exact by first|rfl|(simp -dsimp [hw,b1,b2,b3,b4,h1,h2,h3,h4,hz,zag];done))|refine zk zb (by kernel_rfl) ?_|exact za rfl)|(simp -dsimp [hw,b1,b2,b3,b4,h1,h2,h3,h4,hz,zag])));(all_goals try with_reducible refine za ?_)
      rw[hc]
    ·rw[if_pos hy] at hc
     (repeat' (first|(with_reducible first|refine zj (fun _=>?_) (fun _=>?_)|refine zi (fun _=>?_) (fun _=>?_)|refine zl (hs) (by first|rfl|(simp -dsimp [hw,b1,b2,b3,b4,h1,h2,h3,h4,hy,zag];done)) ?_|(refine zx (hs) rfl ?_ ?_ ?_;iterate 2 exact by first|rfl|(simp -dsimp [hw,b1,b2,b3,b4,h1,h2,h3,h4,hy,zag];done))|refine zk zb (by kernel_rfl) ?_|exact za rfl)|(simp -dsimp [hw,b1,b2,b3,b4,h1,h2,h3,h4,hy,zag])));(all_goals try with_reducible refine za ?_)
     rw[hc]
   ·have hc:=hend (fun h=>h2 h.2)
    (repeat' (first|(with_reducible first|refine zj (fun _=>?_) (fun _=>?_)|refine zi (fun _=>?_) (fun _=>?_)|refine zl (hcc) (by first|rfl|(simp -dsimp [hw,b1,b2,b3,b4,h1,h2];done)) ?_|(refine zx (hcc) rfl ?_ ?_ ?_;iterate 2 exact by first|rfl|(simp -dsimp [hw,b1,b2,b3,b4,h1,h2];done))|refine zk zb (by kernel_rfl) ?_|exact za rfl)|(simp -dsimp [hw,b1,b2,b3,b4,h1,h2])));(all_goals try with_reducible refine za ?_)
    rw[hc]
  ·have hc:=hend (fun h=>h1 h.1)
   (repeat' (first|(with_reducible first|refine zj (fun _=>?_) (fun _=>?_)|refine zi (fun _=>?_) (fun _=>?_)|refine zl (hcc) (by first|rfl|(simp -dsimp [hw,b1,b2,b3,b4,h1];done)) ?_|(refine zx (hcc) rfl ?_ ?_ ?_;iterate 2 exact by first|rfl|(simp -dsimp [hw,b1,b2,b3,b4,h1];done))|refine zk zb (by kernel_rfl) ?_|exact za rfl)|(simp -dsimp [hw,b1,b2,b3,b4,h1])));(all_goals try with_reducible refine za ?_)
   rw[hc]
theorem zjW (k n:Int)(f:Nat)(s:ByteArray)(ks:List ByteArray)(l:List GV):ACalls prog 144 [gvX k n f s ks l] (fun r=>r=aV (.float .f64 (asF k n f))):=zpu k n f s ks l
theorem zvz (g:GV):∀h:GV,okP g→okP h→ACalls prog 177 [gvA g,gvA h] (fun r=>r=aI (zan g h)):=by
 induction g using GV.ind with
 |h k n f s ks l IH=>
 rintro ⟨k',n',f',s',ks',l'⟩ (og:okP _) (oh:okP _)
 rw[zdD,zdD]
 have hr:zan (.mk k n f s ks l) (.mk k' n' f' s' ks' l')=if zA (rkV k) (rkV k')≠0 then zA (rkV k) (rkV k')
  else if rkV k=0 then (if k=2∧k'=2 then zA n n' else zaO (asF k n f) (asF k' n' f'))
  else if rkV k=1 then zbu s s' else if rkV k=2 then zA n n' else if rkV k=3 then cmpPs l l' else if rkV k=4 then cmpPm ks l ks' l' else 0:=by simp only [zan]
 rw[hr]
 cases og with
 |mk og1 og2=>
 cases oh with
 |mk oh1 oh2=>
 refine zf [(1,([3,4],[(0,[]),(2,[]),(1,[]),(3,[]),(4,[]),(5,[])])),(8,([3,4],[(0,[]),(2,[]),(1,[]),(3,[]),(4,[]),(5,[])]))] func177 (by kernel_rfl) rfl ntmps177 results177 (Nat.le_of_ble_eq_true (by kernel_rfl)) ?_;intro hok w0 S0
 have hg:=zof (kind:=k) (n:=n) (f:=f) (s:=s) (keys:=ks) (l:=l) (by rw[zdD];exact hok _ (by simp))
 have hh:=zof (kind:=k') (n:=n') (f:=f') (s:=s') (keys:=ks') (l:=l') (by rw[zdD];exact hok _ (by simp))
 have a2:=hg.hl;have a4:=hh.hl
 clear hok
 have hx:∀x∈l,∀y∈l',ACalls prog 177 [gvA x,gvA y] (fun r=>r=aI (zan x y)):=fun x h1 y h2=>IH x h1 y (og2 x h1) (oh2 y h2)
 have c1:=ztK l l' a2 a4 hx
 have c2:=ztL k n f s ks l k' n' f' s' ks' l' og1 oh1 a2 a4 hx
 have c3:=Zk (rkV k) (rkV k')
 obtain ⟨R,hR⟩:∃R,R=rkV k:=⟨_,rfl⟩
 have c4:=ziu k n f s ks l
 have c5:=ziu k' n' f' s' ks' l'
 rw[←hR] at c3 c4 ⊢
 have c6:=Zk n n'
 have c7:=zbC s s'
 have c8:=zhd (asF k n f) (asF k' n' f')
 have c9:=zjW k n f s ks l
 have c10:=zjW k' n' f' s' ks' l'
 by_cases hz:zA R (rkV k')=0
 ·rw[hz] at c3
  rw[if_neg (by simpa using hz)]
  (repeat' (first|(with_reducible first|refine zj (fun _=>?_) (fun _=>?_)|refine zi (fun _=>?_) (fun _=>?_)|refine zl (c4) (by first|rfl|(simp -dsimp;done)) ?_|(refine zx (c4) rfl ?_ ?_ ?_;iterate 2 exact by first|rfl|(simp -dsimp;done))|refine zl (c5) (by first|rfl|(simp -dsimp;done)) ?_|(refine zx (c5) rfl ?_ ?_ ?_;iterate 2 exact by first|rfl|(simp -dsimp;done))|refine zl (c3) (by first|rfl|(simp -dsimp;done)) ?_|(refine zx (c3) rfl ?_ ?_ ?_;iterate 2 exact by first|rfl|(simp -dsimp;done))|refine zl (c6) (by first|rfl|(simp -dsimp;done)) ?_|(refine zx (c6) rfl ?_ ?_ ?_;iterate 2 exact by first|rfl|(simp -dsimp;done))|refine zl (c7) (by first|rfl|(simp -dsimp;done)) ?_|(refine zx (c7) rfl ?_ ?_ ?_;iterate 2 exact by first|rfl|(simp -dsimp;done))|refine zl (c8) (by first|rfl|(simp -dsimp;done)) ?_|(refine zx (c8) rfl ?_ ?_ ?_;iterate 2 exact by first|rfl|(simp -dsimp;done))|refine zl (c9) (by first|rfl|(simp -dsimp;done)) ?_|(refine zx (c9) rfl ?_ ?_ ?_;iterate 2 exact by first|rfl|(simp -dsimp;done))|refine zl (c10) (by first|rfl|(simp -dsimp;done)) ?_|(refine zx (c10) rfl ?_ ?_ ?_;iterate 2 exact by first|rfl|(simp -dsimp;done))|refine zl (c1) (by first|rfl|(simp -dsimp;done)) ?_|(refine zx (c1) rfl ?_ ?_ ?_;iterate 2 exact by first|rfl|(simp -dsimp;done))|refine zl (c2) (by first|rfl|(simp -dsimp;done)) ?_|(refine zx (c2) rfl ?_ ?_ ?_;iterate 2 exact by first|rfl|(simp -dsimp;done))|refine zk zb (by kernel_rfl) ?_|exact za rfl)|(simp -dsimp)));(all_goals try with_reducible refine za ?_)
  all_goals simp_all
 ·rw[if_pos hz]
  (repeat' (first|(with_reducible first|refine zj (fun _=>?_) (fun _=>?_)|refine zi (fun _=>?_) (fun _=>?_)|refine zl (c4) (by first|rfl|(simp -dsimp [hz];done)) ?_|(refine zx (c4) rfl ?_ ?_ ?_;iterate 2 exact by first|rfl|(simp -dsimp [hz];done))|refine zl (c5) (by first|rfl|(simp -dsimp [hz];done)) ?_|(refine zx (c5) rfl ?_ ?_ ?_;iterate 2 exact by first|rfl|(simp -dsimp [hz];done))|refine zl (c3) (by first|rfl|(simp -dsimp [hz];done)) ?_|(refine zx (c3) rfl ?_ ?_ ?_;iterate 2 exact by first|rfl|(simp -dsimp [hz];done))|refine zk zb (by kernel_rfl) ?_|exact za rfl)|(simp -dsimp [hz])));(all_goals try with_reducible refine za ?_)
theorem zgZ:∀{l m:List UInt8},Op.bytesLess l m=true→Lib.compareBytes l m= -1
 |_,[],h=>by simp [Op.bytesLess] at h
 | [],_::_,_=>rfl
 |a::l,b::m,h=>by
  simp only [Op.bytesLess,Bool.or_eq_true,Bool.and_eq_true,decide_eq_true_eq,beq_iff_eq] at h
  rw[zcs]
  rcases h with h|⟨rfl,h⟩
  ·have h':a.toNat<b.toNat:=UInt8.lt_iff_toNat_lt.1 h
   have hne:a≠b:=fun e=>by subst e;omega
   rw[if_neg hne];unfold zA;rw[if_neg (by omega),if_pos (by omega)]
  ·rw[if_pos rfl,zgZ h]
theorem zg0:∀{l m:List UInt8},Op.bytesLess m l=true→Lib.compareBytes l m=1
 | [],_,h=>by simp [Op.bytesLess] at h
 |_::_,[],_=>rfl
 |a::l,b::m,h=>by
  simp only [Op.bytesLess,Bool.or_eq_true,Bool.and_eq_true,decide_eq_true_eq,beq_iff_eq] at h
  rw[zcs]
  rcases h with h|⟨rfl,h⟩
  ·have h':b.toNat<a.toNat:=UInt8.lt_iff_toNat_lt.1 h
   have hne:a≠b:=fun e=>by subst e;omega
   rw[if_neg hne];unfold zA;rw[if_pos (by omega)]
  ·rw[if_pos rfl,zg0 h]
theorem ztM {a b:ByteArray}(h:blt a b=true):zbu a b= -1:=by
 unfold blt at h;rw[zcU,zcU] at h;exact zgZ h
theorem ztN {a b:ByteArray}(h:blt b a=true):zbu a b=1:=by
 unfold blt at h;rw[zcU,zcU] at h;exact zg0 h
theorem zpx (a:ByteArray):zbu a a=0:=(ze6 _ _).2 rfl
def zb5:List (ByteArray×GV)→List (ByteArray×GV)→Int
 |p::A,q::B=>if zbu p.1 q.1≠0 then zbu p.1 q.1 else if zan p.2 q.2≠0 then zan p.2 q.2 else zb5 A B
 | [],[]=>0
 | [],_::_=> -1
 |_::_,[]=>1
theorem zok:∀A B:List (ByteArray×GV),cmpPm (A.map (·.1)) (A.map (·.2)) (B.map (·.1)) (B.map (·.2))=zb5 A B
 | [],[]=>by simp [cmpPm,zb5,zA]
 | [],q::B=>by simp only [List.map_nil,List.map_cons];rw[zdG (.inl rfl)];simp only [zb5,zA];rw[if_neg (by first|(simp;done)|(simp;omega)),if_pos (by first|(simp;done)|(simp;omega))]
 |p::A,[]=>by simp only [List.map_nil,List.map_cons];rw[zdG (.inr rfl)];simp only [zb5,zA];rw[if_pos (by first|(simp;done)|(simp;omega))]
 |p::A,q::B=>by simp only [List.map_cons,cmpPm,zb5,zok A B]
theorem ziv {c:Tree→Tree→Int}:∀{l m:List Tree},(∀x∈l,∀y∈m,c x y=zan (Zs x) (Zs y))→zgu c l m=cmpPs (fromTs l) (fromTs m)
 | [],[],_=>by simp [zgu,fromTs,cmpPs]
 | [],_::_,_=>by simp [zgu,fromTs,cmpPs]
 |_::_,[],_=>by simp [zgu,fromTs,cmpPs]
 |x::l,y::m,h=>by
  simp only [zgu,fromTs,cmpPs]
  rw[ziv (l:=l) (m:=m) fun a ha b hb=>h a (List.mem_cons_of_mem _ ha) b (List.mem_cons_of_mem _ hb),h x (List.mem_cons_self ..) y (List.mem_cons_self ..)]
def zrB (m:List (ByteArray×Tree))(V:List ByteArray)(A:List (ByteArray×GV)):Prop:=∀k∈V,(∀g,(k,g)∈A→∃x,zai m k=some x∧(k,x)∈m∧g=Zs x)∧(k∉A.map (·.1)→zai m k=none)
theorem zg1 {c:Tree→Tree→Int}{m1 m2:List (ByteArray×Tree)}(hc:∀x∈m1,∀y∈m2,c x.2 y.2=zan (Zs x.2) (Zs y.2)):
  ∀(V:List ByteArray) (A B:List (ByteArray×GV)) (i:Nat),Z0 A→Z0 B→V.Pairwise (fun a b=>blt a b=true)→(∀q,q∈V↔q∈A.map (·.1)∨q∈B.map (·.1))→i+A.length=m1.length→i+B.length=m2.length→zrB m1 V A→zrB m2 V B→zc8 c m1 m2 i V=zb5 A B
 | [],A,B,i,_,_,_,hV,_,_,_,_=>by
  cases A with
  |nil=>cases B with
   |nil=>simp [zc8,zb5]
   |cons q B=>have:=(hV q.1).2 (.inr (by simp));cases this
  |cons p A=>have:=(hV p.1).2 (.inl (by simp));cases this
 |k0::V,A,B,i,sA,sB,sV,hV,hA,hB,kA,kB=>by
  simp only [zc8]
  rw[List.pairwise_cons] at sV
  have h0:=(hV k0).1 (List.mem_cons_self ..)
  have one:∀r:Int,zbp c m1 m2 i k0=r→r≠0→(if zbp c m1 m2 i k0≠0 then zbp c m1 m2 i k0 else zc8 c m1 m2 (i+1) V)=r:=fun r e hr=>by rw[e,if_pos hr]
  have least:∀q∈k0::V,q=k0∨blt k0 q=true:=fun q hq=>by
   rcases List.mem_cons.1 hq with h|h
   ·exact .inl h
   ·exact .inr (sV.1 q h)
  cases A with
  |nil=>cases B with
   |nil=>simp at h0
   |cons q B=>
    refine one _ ?_ (by simp [zb5])
    unfold zbp;rw[if_pos (by simpa using hA)];simp [zb5]
  |cons p A=>cases B with
   |nil=>
    refine one _ ?_ (by simp [zb5])
    unfold zbp;rw[if_neg (by simp at hA;omega),if_pos (by simpa using hB)];simp [zb5]
   |cons q B=>
    simp only [Z0,List.map_cons,List.pairwise_cons] at sA sB
    simp only [List.length_cons] at hA hB
    have hn1:¬i=m1.length:=by omega
    have hn2:¬i=m2.length:=by omega
    have hp:p.1∈k0::V:=(hV p.1).2 (.inl (by simp))
    have hq:q.1∈k0::V:=(hV q.1).2 (.inr (by simp))
    have hk0:=List.mem_cons_self (a:=k0) (l:=V)
    rcases zeX p.1 q.1 with h|h|h
    ·
     have e:k0=p.1:=by
      rcases least _ hp with e|e
      ·exact e.symm
      ·have:blt k0 q.1=true:=Zv e h
       rcases h0 with h0|h0
       ·simp only [List.map_cons,List.mem_cons] at h0
        rcases h0 with h0|h0
        ·exact h0
        ·have:=Zv (sA.1 _ h0) e;rw[zP] at this;cases this
       ·simp only [List.map_cons,List.mem_cons] at h0
        rcases h0 with h0|h0
        ·rw[h0,zP] at this;cases this
        ·have:=Zv (sB.1 _ h0) this;rw[zP] at this;cases this
     subst e
     obtain ⟨x,hx,_,_⟩:=(kA _ hk0).1 p.2 (by simp)
     have hy:zai m2 p.1=none:=(kB _ hk0).2 fun hm=>by
      simp only [List.map_cons,List.mem_cons] at hm
      rcases hm with hm|hm
      ·rw[hm,zP] at h;cases h
      ·have:=Zv (sB.1 _ hm) h;rw[zP] at this;cases this
     have hr:zb5 (p::A) (q::B)= -1:=by simp [zb5,ztM h]
     rw[hr]
     refine one _ ?_ (by decide)
     unfold zbp;rw[if_neg hn1,if_neg hn2,hx,hy]
    ·
     have e:k0=p.1:=by
      rcases least _ hp with e|e
      ·exact e.symm
      ·rcases h0 with h0|h0
       ·simp only [List.map_cons,List.mem_cons] at h0
        rcases h0 with h0|h0
        ·exact h0
        ·have:=Zv (sA.1 _ h0) e;rw[zP] at this;cases this
       ·simp only [List.map_cons,List.mem_cons] at h0
        rcases h0 with h0|h0
        ·rw[h0,h]
        ·have:=Zv (sB.1 _ h0) (h▸e);rw[zP] at this;cases this
     subst e
     obtain ⟨x,hx,hxm,ex⟩:=(kA _ hk0).1 p.2 (by simp)
     obtain ⟨y,hy,hym,ey⟩:=(kB _ hk0).1 q.2 (by rw[h];simp)
     have ho:zbp c m1 m2 i p.1=zan p.2 q.2:=by
      unfold zbp;rw[if_neg hn1,if_neg hn2,hx,hy,ex,ey]
      exact hc _ hxm _ hym
     rw[ho]
     have hr:zb5 (p::A) (q::B)=if zan p.2 q.2≠0 then zan p.2 q.2 else zb5 A B:=by simp only [zb5,←h,zpx];simp
     rw[hr]
     by_cases hz:zan p.2 q.2=0
     ·rw[if_neg (by simpa using hz),if_neg (by simpa using hz)]
      have hgt:∀k∈V,k≠p.1:=fun k hk e=>by have:=sV.1 k hk;rw[e,zP] at this;cases this
      refine zg1 hc V A B (i+1) sA.2 sB.2 sV.2 (fun r=>?_) (by omega) (by omega) (fun k hk=>?_) fun k hk=>?_
      ·constructor
       ·intro hr
        have:=(hV r).1 (List.mem_cons_of_mem _ hr)
        simp only [List.map_cons,List.mem_cons] at this
        rcases this with (h1|h1)|(h1|h1)
        ·exact absurd h1 (hgt r hr)
        ·exact .inl h1
        ·exact absurd (h1.trans h.symm) (hgt r hr)
        ·exact .inr h1
       ·intro hr
        have:r∈p.1::V:=(hV r).2 (by rcases hr with h1|h1;exact .inl (by simp [h1]);exact .inr (by simp [h1]))
        rcases List.mem_cons.1 this with e|h1
        ·rcases hr with h2|h2
         ·have:=sA.1 r h2;rw[e,zP] at this;cases this
         ·have:=sB.1 r h2;rw[e,h,zP] at this;cases this
        ·exact h1
      ·obtain ⟨a1,a2⟩:=kA k (List.mem_cons_of_mem _ hk)
       exact ⟨fun g hg=>a1 g (List.mem_cons_of_mem _ hg),fun hn=>a2 fun hm=>by
        simp only [List.map_cons,List.mem_cons] at hm
        rcases hm with hm|hm
        ·exact hgt k hk hm
        ·exact hn hm⟩
      ·obtain ⟨a1,a2⟩:=kB k (List.mem_cons_of_mem _ hk)
       exact ⟨fun g hg=>a1 g (List.mem_cons_of_mem _ hg),fun hn=>a2 fun hm=>by
        simp only [List.map_cons,List.mem_cons] at hm
        rcases hm with hm|hm
        ·exact hgt k hk (hm.trans h.symm)
        ·exact hn hm⟩
     ·rw[if_pos hz,if_pos hz]
    ·
     have e:k0=q.1:=by
      rcases least _ hq with e|e
      ·exact e.symm
      ·have:blt k0 p.1=true:=Zv e h
       rcases h0 with h0|h0
       ·simp only [List.map_cons,List.mem_cons] at h0
        rcases h0 with h0|h0
        ·rw[h0,zP] at this;cases this
        ·have:=Zv (sA.1 _ h0) this;rw[zP] at this;cases this
       ·simp only [List.map_cons,List.mem_cons] at h0
        rcases h0 with h0|h0
        ·exact h0
        ·have:=Zv (sB.1 _ h0) e;rw[zP] at this;cases this
     subst e
     have hx:zai m1 q.1=none:=(kA _ hk0).2 fun hm=>by
      simp only [List.map_cons,List.mem_cons] at hm
      rcases hm with hm|hm
      ·rw[hm,zP] at h;cases h
      ·have:=Zv (sA.1 _ hm) h;rw[zP] at this;cases this
     have hr:zb5 (p::A) (q::B)=1:=by simp [zb5,ztN h]
     rw[hr]
     refine one _ ?_ (by decide)
     unfold zbp;rw[if_neg hn1,if_neg hn2,hx]
theorem ziw {m:List (ByteArray×Tree)}(hn:(m.map (·.1)).Nodup)(V:List ByteArray):zrB m V (fromMs m):=fun k _=>
 ⟨fun g hg=>by
  obtain ⟨t,ht,e⟩:=zfs hg
  exact ⟨t,zeD hn ht,ht,e⟩,fun hk=>zjM fun h=>hk ((zby k m).2 h)⟩
theorem zix {m:List (ByteArray×Tree)}(hn:(m.map (·.1)).Nodup):(fromMs m).length=m.length:=by
 have:=zim (zfW (zaf m)) hn fun q=>zby q m
 rwa[List.length_map,List.length_map] at this
theorem zgz:∀(n:Nat) (x y:Tree),dep x≤n→zaM x→zaM y→zk6 n x y=zan (Zs x) (Zs y)
 |0,x,y,h,_,_=>by have:=zoh x;omega
 |n+1,x,y,h,hx,hy=>by
  unfold zk6
  cases x<;>cases y<;>simp only [zvu,Zs,zc7,zan]<;>(try (simp [rkV,zA,asF,zbu];done))
  case bool.bool a b=>cases a<;>cases b<;>simp [rkV,zA,zvs]
  case list.list l m=>
   simp only [zaM] at hx hy
   simp only [dep] at h
   rw[ziv fun a ha b hb=>zgz n a b (by have:=zij ha;omega) (hx.2.mem a ha) (hy.2.mem b hb)]
   simp [rkV,zA]
  case map.map l m=>
   simp only [zaM] at hx hy
   simp only [dep] at h
   have hu:=zru l m (zk7 l m)
   rw[zg1 (fun a ha b hb=>zgz n a.2 b.2 (by have:=zik ha;omega) (hx.2.2.mem a ha) (hy.2.2.mem b hb)) (zjP l m) (fromMs l) (fromMs m) 0 (zaf l) (zaf m) hu.1
    (fun q=>by rw[hu.2 q,zby,zby]) (by rw[zix hx.2.1];omega) (by rw[zix hy.2.1];omega) (ziw hx.2.1 _) (ziw hy.2.1 _),←zok]
   simp [rkV,zA]
theorem zjX (a b:GV)(ha:zaM (Zb a))(hb:zaM (Zb b)):znr (Zb a) (Zb b)=zan (zL a) (zL b):=by
 unfold znr
 rw[zgz _ _ _ (Nat.le_refl _) ha hb,zjT,zjT]
theorem zdH (a b:GV):ACalls prog 124 [gvA a,gvA b] (fun r=>r=aI (zan (zL a) (zL b))):=by
 refine zf [(1,([3,4],[(0,[]),(2,[]),(1,[]),(3,[]),(4,[]),(5,[])]))] func124 (by kernel_rfl) rfl ntmps124 results124 (Nat.le_of_ble_eq_true (by kernel_rfl)) ?_;intro hok w0 S0
 clear hok
 have h:=zvz _ _ (zgy a) (zgy b)
 (repeat' (first|(with_reducible first|refine zj (fun _=>?_) (fun _=>?_)|refine zi (fun _=>?_) (fun _=>?_)|refine zl (zfY _) (by first|rfl|(simp -dsimp;done)) ?_|refine zx (zfY _) rfl (by first|rfl|(simp -dsimp;done)) (by first|rfl|(simp -dsimp;done)) ?_|refine zl (h) (by first|rfl|(simp -dsimp;done)) ?_|(refine zx (h) rfl ?_ ?_ ?_;iterate 2 exact by first|rfl|(simp -dsimp;done))|refine zk zb (by kernel_rfl) ?_|exact za rfl)|(simp -dsimp)));(all_goals try with_reducible refine za ?_)
end Go.Smd
end
