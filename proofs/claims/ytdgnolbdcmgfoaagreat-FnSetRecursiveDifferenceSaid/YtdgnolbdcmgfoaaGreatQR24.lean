/- Part 24 of the proof: Ct Cu. -/
import Derived.Test.YtdgnolbdcmgfoaaGreatQR23
set_option linter.unusedVariables false
set_option linter.unusedSimpArgs false
set_option maxRecDepth 100000
set_option maxHeartbeats 8000000
section
namespace Go.Smd
open Go.RowKit Go.Proofs Go.Proofs.Tryz
inductive okP:GV→Prop
 |mk {k n:Int} {f:Nat} {s:ByteArray} {ks:List ByteArray} {l:List GV} (h:ks.length≤l.length) (hl:∀x∈l,okP x):okP (.mk k n f s ks l)
theorem zuN {k n:Int}{f:Nat}{s:ByteArray}:okP (.mk k n f s [] []):=.mk (Nat.le_refl _) fun x hx=>by cases hx
theorem zg4 (g:GV):okP (zw g):=by
 induction g using GV.ind with
 |h kind n f s keys l IH=>
 have hl:∀x∈cleans l,okP x:=fun x hx=>by
  rw[zaE] at hx
  obtain ⟨y,hy,rfl⟩:=List.mem_map.1 hx
  exact IH y hy
 simp only [zw]
 repeat' split
 all_goals first|exact zuN|skip
 ·exact .mk (by simp) hl
 ·refine .mk (by simp) fun x hx=>?_
  obtain ⟨p,hp,rfl⟩:=List.mem_map.1 hx
  exact zeZ keys (cleans l) [] okP hl (by simp) .nil p hp
theorem zqw {l m:List GV}(h:l= []∨m= []):cmpPs l m=zB (l.length:Int) m.length:=by
 cases l with
 |nil=>cases m with
  |nil=>simp [cmpPs,zB]
  |cons y m=>simp only [cmpPs,zB];rw[if_neg (by first|(simp;done)|(simp;omega)),if_pos (by first|(simp;done)|(simp;omega))]
 |cons x l=>cases m with
  |nil=>simp only [cmpPs,zB];rw[if_pos (by first|(simp;done)|(simp;omega))]
  |cons y m=>simp at h
theorem zd0 {ks ks':List ByteArray}{l l':List GV}(h:ks= []∨ks'= []):cmpPm ks l ks' l'=zB (ks.length:Int) ks'.length:=by
 rcases h with rfl|rfl
 ·unfold cmpPm;rfl
 ·cases ks<;>cases l<;>simp [cmpPm]
theorem zuO (l m:List GV)(hl:l.length*88≤140737488351232)(hm:m.length*88≤140737488351232)(H:∀x∈l,∀y∈m,ACalls prog 177 [gvA x,gvA y] (fun r=>r=aI (zar x y))):
  ACalls prog 213 [.c (.d (zat l)),.c (.d (zat m))] (fun r=>r=aI (cmpPs l m)):=by
 refine ze [(4,([8],[(0,[]),(1,[]),(2,[]),(3,[]),(4,[]),(5,[]),(6,[]),(7,[]),(8,[]),(9,[])]))] func213 (by kernel_rfl) rfl ntmps213 results213 (Nat.le_of_ble_eq_true (by kernel_rfl)) ?_;intro hok w0 S0
 clear hok
 have b1:l.length≤9223372036854775807:=by omega
 have b2:m.length≤9223372036854775807:=by omega
 (repeat' (first|(with_reducible first|refine zj (fun _=>?_) (fun _=>?_)|refine zi (fun _=>?_) (fun _=>?_)|refine zk zb (by kernel_rfl) ?_|exact za rfl)|(simp -dsimp)));(all_goals try with_reducible refine za ?_)
 refine zC (fun i:Nat=>⟨[(0,.c (.d (zat l))),(1,.c (.d (zat m))),(5,aI i)],[]⟩) (fun i=>i≤l.length∧i≤m.length∧cmpPs l m=cmpPs (l.drop i) (m.drop i)) (fun i=>l.length - i) 0 ?_ ⟨Nat.zero_le _,Nat.zero_le _,rfl⟩ ?_
 ·exact Weak.same (by simp -dsimp) (by simp -dsimp) (by first|rfl|(simp [zf,Av.ids,Ow.ids,Cl.ids,Go.Smd.keys];done))
 ·rintro i ⟨hi,hj,heq⟩ K hK
  have hw:IntKind.wrap .i64 ((i:Int)+1)=((i+1:Nat):Int):=by rw[zn]<;>omega
  have hcc:=Zp (l.length:Int) m.length
  have hend:¬(i<l.length∧i<m.length)→cmpPs l m=zB (l.length:Int) m.length:=fun h=>by
   rw[heq,zqw (by
    by_cases h1:i<l.length
    ·exact .inr (List.drop_eq_nil_of_le (by omega))
    ·exact .inl (List.drop_eq_nil_of_le (by omega))),List.length_drop,List.length_drop,←zgy i hi hj]
  by_cases h1:i<l.length
  ·by_cases h2:i<m.length
   ·have hc:cmpPs l m=if zar l[i] m[i]≠0 then zar l[i] m[i] else cmpPs (l.drop (i+1)) (m.drop (i+1)):=by
     rw[heq,List.drop_eq_getElem_cons h1,List.drop_eq_getElem_cons h2];simp only [cmpPs]
    have hx:=H _ (List.getElem_mem h1) _ (List.getElem_mem h2)
    by_cases hz:zar l[i] m[i]=0
    ·rw[if_neg (by simpa using hz)] at hc
     rw[hz] at hx
     (repeat' (first|(with_reducible first|refine zj (fun _=>?_) (fun _=>?_)|refine zi (fun _=>?_) (fun _=>?_)|refine zl (hx) (by first|rfl|(simp -dsimp [hw,b1,b2,h1,h2];done)) ?_|(refine zA (hx) rfl ?_ ?_ ?_;iterate 2 exact by first|rfl|(simp -dsimp [hw,b1,b2,h1,h2];done))|refine zk zb (by kernel_rfl) ?_|exact za rfl)|(simp -dsimp [hw,b1,b2,h1,h2])));(all_goals try with_reducible refine za ?_)
     refine hK _ (i+1) ?_ ⟨by omega,by omega,hc⟩ (by omega)
     exact Weak.same (by simp -dsimp) (by simp -dsimp) (by first|rfl|(simp [zf,Av.ids,Ow.ids,Cl.ids,Go.Smd.keys];done))
    ·rw[if_pos hz] at hc
     (repeat' (first|(with_reducible first|refine zj (fun _=>?_) (fun _=>?_)|refine zi (fun _=>?_) (fun _=>?_)|refine zl (hx) (by first|rfl|(simp -dsimp [hw,b1,b2,h1,h2,hz];done)) ?_|(refine zA (hx) rfl ?_ ?_ ?_;iterate 2 exact by first|rfl|(simp -dsimp [hw,b1,b2,h1,h2,hz];done))|refine zk zb (by kernel_rfl) ?_|exact za rfl)|(simp -dsimp [hw,b1,b2,h1,h2,hz])));(all_goals try with_reducible refine za ?_)
     rw[hc]
   ·have hc:=hend (fun h=>h2 h.2)
    (repeat' (first|(with_reducible first|refine zj (fun _=>?_) (fun _=>?_)|refine zi (fun _=>?_) (fun _=>?_)|refine zl (hcc) (by first|rfl|(simp -dsimp [hw,b1,b2,h1,h2];done)) ?_|(refine zA (hcc) rfl ?_ ?_ ?_;iterate 2 exact by first|rfl|(simp -dsimp [hw,b1,b2,h1,h2];done))|refine zk zb (by kernel_rfl) ?_|exact za rfl)|(simp -dsimp [hw,b1,b2,h1,h2])));(all_goals try with_reducible refine za ?_)
    rw[hc]
  ·have hc:=hend (fun h=>h1 h.1)
   (repeat' (first|(with_reducible first|refine zj (fun _=>?_) (fun _=>?_)|refine zi (fun _=>?_) (fun _=>?_)|refine zl (hcc) (by first|rfl|(simp -dsimp [hw,b1,b2,h1];done)) ?_|(refine zA (hcc) rfl ?_ ?_ ?_;iterate 2 exact by first|rfl|(simp -dsimp [hw,b1,b2,h1];done))|refine zk zb (by kernel_rfl) ?_|exact za rfl)|(simp -dsimp [hw,b1,b2,h1])));(all_goals try with_reducible refine za ?_)
   rw[hc]
theorem zuP (k n:Int)(f:Nat)(s:ByteArray)(ks:List ByteArray)(l:List GV)(k' n':Int)(f':Nat)(s':ByteArray)(ks':List ByteArray)(l':List GV)(hk:ks.length≤l.length)(hk':ks'.length≤l'.length)(hl:l.length*88≤140737488351232)(hl':l'.length*88≤140737488351232)
  (H:∀x∈l,∀y∈l',ACalls prog 177 [gvA x,gvA y] (fun r=>r=aI (zar x y))):
  ACalls prog 214 [gvX k n f s ks l,gvX k' n' f' s' ks' l'] (fun r=>r=aI (cmpPm ks l ks' l')):=by
 refine ze [(4,([10],[(0,[]),(1,[]),(2,[]),(3,[]),(4,[]),(5,[]),(6,[]),(7,[]),(8,[]),(9,[]),(10,[]),(11,[])])),(7,([10],[(0,[]),(1,[]),(2,[]),(3,[]),(4,[]),(5,[]),(6,[]),(7,[]),(8,[]),(9,[]),(10,[]),(11,[])]))] func214 (by kernel_rfl) rfl ntmps214 results214 (Nat.le_of_ble_eq_true (by kernel_rfl)) ?_;intro hok w0 S0
 clear hok
 have b1:l.length≤9223372036854775807:=by omega
 have b2:l'.length≤9223372036854775807:=by omega
 have b3:ks.length≤9223372036854775807:=by omega
 have b4:ks'.length≤9223372036854775807:=by omega
 (repeat' (first|(with_reducible first|refine zj (fun _=>?_) (fun _=>?_)|refine zi (fun _=>?_) (fun _=>?_)|refine zk zb (by kernel_rfl) ?_|exact za rfl)|(simp -dsimp)));(all_goals try with_reducible refine za ?_)
 refine zC (fun i:Nat=>⟨[(2,.c (.own 2 0)),(3,.c (.own 3 0)),(5,aI i)],[(2,.cells [.d (dI k),.d (dI n),.d (dF f),.d (dS s),.d (ZK ks),.d (zat l)] 27),(3,.cells [.d (dI k'),.d (dI n'),.d (dF f'),.d (dS s'),.d (ZK ks'),.d (zat l')] 27)]⟩)
  (fun i=>i≤ks.length∧i≤ks'.length∧cmpPm ks l ks' l'=cmpPm (ks.drop i) (l.drop i) (ks'.drop i) (l'.drop i)) (fun i=>ks.length - i) 0 ?_ ⟨Nat.zero_le _,Nat.zero_le _,rfl⟩ ?_
 ·exact Weak.same (by simp -dsimp) (by simp -dsimp) (by first|rfl|(simp [zf,Av.ids,Ow.ids,Cl.ids,Go.Smd.keys];done))
 ·rintro i ⟨hi,hj,heq⟩ K hK
  have hw:IntKind.wrap .i64 ((i:Int)+1)=((i+1:Nat):Int):=by rw[zn]<;>omega
  have hcc:=Zp (ks.length:Int) ks'.length
  have hend:¬(i<ks.length∧i<ks'.length)→cmpPm ks l ks' l'=zB (ks.length:Int) ks'.length:=fun h=>by
   rw[heq,zd0 (by
    by_cases h1:i<ks.length
    ·exact .inr (List.drop_eq_nil_of_le (by omega))
    ·exact .inl (List.drop_eq_nil_of_le (by omega))),List.length_drop,List.length_drop,←zgy i hi hj]
  by_cases h1:i<ks.length
  ·by_cases h2:i<ks'.length
   ·have h3:i<l.length:=by omega
    have h4:i<l'.length:=by omega
    have hc:cmpPm ks l ks' l'=if zaZ ks[i] ks'[i]≠0 then zaZ ks[i] ks'[i] else if zar l[i] l'[i]≠0 then zar l[i] l'[i] else cmpPm (ks.drop (i+1)) (l.drop (i+1)) (ks'.drop (i+1)) (l'.drop (i+1)):=by
     rw[heq,List.drop_eq_getElem_cons h1,List.drop_eq_getElem_cons h2,List.drop_eq_getElem_cons h3,List.drop_eq_getElem_cons h4];simp only [cmpPm]
    have hx:=H _ (List.getElem_mem h3) _ (List.getElem_mem h4)
    have hs:=zbM ks[i] ks'[i]
    by_cases hy:zaZ ks[i] ks'[i]=0
    ·rw[if_neg (by simpa using hy)] at hc
     rw[hy] at hs
     by_cases hz:zar l[i] l'[i]=0
     ·rw[if_neg (by simpa using hz)] at hc
      rw[hz] at hx
      (repeat' (first|(with_reducible first|refine zj (fun _=>?_) (fun _=>?_)|refine zi (fun _=>?_) (fun _=>?_)|refine zl (hx) (by first|rfl|(simp -dsimp [hw,b1,b2,b3,b4,h1,h2,h3,h4,ZL];done)) ?_|(refine zA (hx) rfl ?_ ?_ ?_;iterate 2 exact by first|rfl|(simp -dsimp [hw,b1,b2,b3,b4,h1,h2,h3,h4,ZL];done))|refine zl (hs) (by first|rfl|(simp -dsimp [hw,b1,b2,b3,b4,h1,h2,h3,h4,ZL];done)) ?_|(refine zA (hs) rfl ?_ ?_ ?_;iterate 2 exact by first|rfl|(simp -dsimp [hw,b1,b2,b3,b4,h1,h2,h3,h4,ZL];done))|refine zk zb (by kernel_rfl) ?_|exact za rfl)|(simp -dsimp [hw,b1,b2,b3,b4,h1,h2,h3,h4,ZL])));(all_goals try with_reducible refine za ?_)
      refine hK _ (i+1) ?_ ⟨by omega,by omega,hc⟩ (by omega)
      exact Weak.same (by simp -dsimp) (by simp -dsimp) (by first|rfl|(simp [zf,Av.ids,Ow.ids,Cl.ids,Go.Smd.keys];done))
     ·rw[if_pos hz] at hc
      (repeat' (first|(with_reducible first|refine zj (fun _=>?_) (fun _=>?_)|refine zi (fun _=>?_) (fun _=>?_)|refine zl (hx) (by first|rfl|(simp -dsimp [hw,b1,b2,b3,b4,h1,h2,h3,h4,hz,ZL];done)) ?_|(refine zA (hx) rfl ?_ ?_ ?_;iterate 2 exact by first|rfl|(simp -dsimp [hw,b1,b2,b3,b4,h1,h2,h3,h4,hz,ZL];done))|refine zl (hs) (by first|rfl|(simp -dsimp [hw,b1,b2,b3,b4,h1,h2,h3,h4,hz,ZL];done)) ?_|(refine zA (hs) rfl ?_ ?_ ?_;iterate 2 exact by first|rfl|(simp -dsimp [hw,b1,b2,b3,b4,h1,h2,h3,h4,hz,ZL];done))|refine zk zb (by kernel_rfl) ?_|exact za rfl)|(simp -dsimp [hw,b1,b2,b3,b4,h1,h2,h3,h4,hz,ZL])));(all_goals try with_reducible refine za ?_)
      rw[hc]
    ·rw[if_pos hy] at hc
     (repeat' (first|(with_reducible first|refine zj (fun _=>?_) (fun _=>?_)|refine zi (fun _=>?_) (fun _=>?_)|refine zl (hs) (by first|rfl|(simp -dsimp [hw,b1,b2,b3,b4,h1,h2,h3,h4,hy,ZL];done)) ?_|(refine zA (hs) rfl ?_ ?_ ?_;iterate 2 exact by first|rfl|(simp -dsimp [hw,b1,b2,b3,b4,h1,h2,h3,h4,hy,ZL];done))|refine zk zb (by kernel_rfl) ?_|exact za rfl)|(simp -dsimp [hw,b1,b2,b3,b4,h1,h2,h3,h4,hy,ZL])));(all_goals try with_reducible refine za ?_)
     rw[hc]
   ·have hc:=hend (fun h=>h2 h.2)
    (repeat' (first|(with_reducible first|refine zj (fun _=>?_) (fun _=>?_)|refine zi (fun _=>?_) (fun _=>?_)|refine zl (hcc) (by first|rfl|(simp -dsimp [hw,b1,b2,b3,b4,h1,h2];done)) ?_|(refine zA (hcc) rfl ?_ ?_ ?_;iterate 2 exact by first|rfl|(simp -dsimp [hw,b1,b2,b3,b4,h1,h2];done))|refine zk zb (by kernel_rfl) ?_|exact za rfl)|(simp -dsimp [hw,b1,b2,b3,b4,h1,h2])));(all_goals try with_reducible refine za ?_)
    rw[hc]
  ·have hc:=hend (fun h=>h1 h.1)
   (repeat' (first|(with_reducible first|refine zj (fun _=>?_) (fun _=>?_)|refine zi (fun _=>?_) (fun _=>?_)|refine zl (hcc) (by first|rfl|(simp -dsimp [hw,b1,b2,b3,b4,h1];done)) ?_|(refine zA (hcc) rfl ?_ ?_ ?_;iterate 2 exact by first|rfl|(simp -dsimp [hw,b1,b2,b3,b4,h1];done))|refine zk zb (by kernel_rfl) ?_|exact za rfl)|(simp -dsimp [hw,b1,b2,b3,b4,h1])));(all_goals try with_reducible refine za ?_)
   rw[hc]
theorem zkB (k n:Int)(f:Nat)(s:ByteArray)(ks:List ByteArray)(l:List GV):ACalls prog 144 [gvX k n f s ks l] (fun r=>r=aV (.float .f64 (asF k n f))):=zg3 k n f s ks l
theorem zwF (g:GV):∀h:GV,okP g→okP h→ACalls prog 177 [gvA g,gvA h] (fun r=>r=aI (zar g h)):=by
 induction g using GV.ind with
 |h k n f s ks l IH=>
 rintro ⟨k',n',f',s',ks',l'⟩ (og:okP _) (oh:okP _)
 rw[zci,zci]
 have hr:zar (.mk k n f s ks l) (.mk k' n' f' s' ks' l')=if zB (rkV k) (rkV k')≠0 then zB (rkV k) (rkV k')
  else if rkV k=0 then (if k=2∧k'=2 then zB n n' else zaP (asF k n f) (asF k' n' f'))
  else if rkV k=1 then zaZ s s' else if rkV k=2 then zB n n' else if rkV k=3 then cmpPs l l' else if rkV k=4 then cmpPm ks l ks' l' else 0:=by simp only [zar]
 rw[hr]
 cases og with
 |mk og1 og2=>
 cases oh with
 |mk oh1 oh2=>
 refine ze [(1,([3,4],[(0,[]),(2,[]),(1,[]),(3,[]),(4,[]),(5,[])])),(8,([3,4],[(0,[]),(2,[]),(1,[]),(3,[]),(4,[]),(5,[])]))] func177 (by kernel_rfl) rfl ntmps177 results177 (Nat.le_of_ble_eq_true (by kernel_rfl)) ?_;intro hok w0 S0
 have hg:=zkn (kind:=k) (n:=n) (f:=f) (s:=s) (keys:=ks) (l:=l) (by rw[zci];exact hok _ (by simp))
 have hh:=zkn (kind:=k') (n:=n') (f:=f') (s:=s') (keys:=ks') (l:=l') (by rw[zci];exact hok _ (by simp))
 have a2:=hg.hl;have a4:=hh.hl
 clear hok
 have hx:∀x∈l,∀y∈l',ACalls prog 177 [gvA x,gvA y] (fun r=>r=aI (zar x y)):=fun x h1 y h2=>IH x h1 y (og2 x h1) (oh2 y h2)
 have c1:=zuO l l' a2 a4 hx
 have c2:=zuP k n f s ks l k' n' f' s' ks' l' og1 oh1 a2 a4 hx
 have c3:=Zp (rkV k) (rkV k')
 obtain ⟨R,hR⟩:∃R,R=rkV k:=⟨_,rfl⟩
 have c4:=zi3 k n f s ks l
 have c5:=zi3 k' n' f' s' ks' l'
 rw[←hR] at c3 c4 ⊢
 have c6:=Zp n n'
 have c7:=zbM s s'
 have c8:=zhN (asF k n f) (asF k' n' f')
 have c9:=zkB k n f s ks l
 have c10:=zkB k' n' f' s' ks' l'
 by_cases hz:zB R (rkV k')=0
 ·rw[hz] at c3
  rw[if_neg (by simpa using hz)]
  (repeat' (first|(with_reducible first|refine zj (fun _=>?_) (fun _=>?_)|refine zi (fun _=>?_) (fun _=>?_)|refine zl (c4) (by first|rfl|(simp -dsimp;done)) ?_|(refine zA (c4) rfl ?_ ?_ ?_;iterate 2 exact by first|rfl|(simp -dsimp;done))|refine zl (c5) (by first|rfl|(simp -dsimp;done)) ?_|(refine zA (c5) rfl ?_ ?_ ?_;iterate 2 exact by first|rfl|(simp -dsimp;done))|refine zl (c3) (by first|rfl|(simp -dsimp;done)) ?_|(refine zA (c3) rfl ?_ ?_ ?_;iterate 2 exact by first|rfl|(simp -dsimp;done))|refine zl (c6) (by first|rfl|(simp -dsimp;done)) ?_|(refine zA (c6) rfl ?_ ?_ ?_;iterate 2 exact by first|rfl|(simp -dsimp;done))|refine zl (c7) (by first|rfl|(simp -dsimp;done)) ?_|(refine zA (c7) rfl ?_ ?_ ?_;iterate 2 exact by first|rfl|(simp -dsimp;done))|refine zl (c8) (by first|rfl|(simp -dsimp;done)) ?_|(refine zA (c8) rfl ?_ ?_ ?_;iterate 2 exact by first|rfl|(simp -dsimp;done))|refine zl (c9) (by first|rfl|(simp -dsimp;done)) ?_|(refine zA (c9) rfl ?_ ?_ ?_;iterate 2 exact by first|rfl|(simp -dsimp;done))|refine zl (c10) (by first|rfl|(simp -dsimp;done)) ?_|(refine zA (c10) rfl ?_ ?_ ?_;iterate 2 exact by first|rfl|(simp -dsimp;done))|refine zl (c1) (by first|rfl|(simp -dsimp;done)) ?_|(refine zA (c1) rfl ?_ ?_ ?_;iterate 2 exact by first|rfl|(simp -dsimp;done))|refine zl (c2) (by first|rfl|(simp -dsimp;done)) ?_|(refine zA (c2) rfl ?_ ?_ ?_;iterate 2 exact by first|rfl|(simp -dsimp;done))|refine zk zb (by kernel_rfl) ?_|exact za rfl)|(simp -dsimp)));(all_goals try with_reducible refine za ?_)
  all_goals simp_all
 ·rw[if_pos hz]
  (repeat' (first|(with_reducible first|refine zj (fun _=>?_) (fun _=>?_)|refine zi (fun _=>?_) (fun _=>?_)|refine zl (c4) (by first|rfl|(simp -dsimp [hz];done)) ?_|(refine zA (c4) rfl ?_ ?_ ?_;iterate 2 exact by first|rfl|(simp -dsimp [hz];done))|refine zl (c5) (by first|rfl|(simp -dsimp [hz];done)) ?_|(refine zA (c5) rfl ?_ ?_ ?_;iterate 2 exact by first|rfl|(simp -dsimp [hz];done))|refine zl (c3) (by first|rfl|(simp -dsimp [hz];done)) ?_|(refine zA (c3) rfl ?_ ?_ ?_;iterate 2 exact by first|rfl|(simp -dsimp [hz];done))|refine zk zb (by kernel_rfl) ?_|exact za rfl)|(simp -dsimp [hz])));(all_goals try with_reducible refine za ?_)
theorem zhz:∀{l  m:List UInt8},Op.bytesLess l m=true→Lib.compareBytes l m= -1
 |_,[],h=>by simp [Op.bytesLess] at h
 | [],_::_,_=>rfl
 |a::l,b::m,h=>by
  simp only [Op.bytesLess,Bool.or_eq_true,Bool.and_eq_true,decide_eq_true_eq,beq_iff_eq] at h
  rw[zcJ]
  rcases h with h|⟨rfl,h⟩
  ·have h':a.toNat<b.toNat:=UInt8.lt_iff_toNat_lt.1 h
   have hne:a≠b:=fun e=>by subst e;omega
   rw[if_neg hne];unfold zB;rw[if_neg (by omega),if_pos (by omega)]
  ·rw[if_pos rfl,zhz h]
theorem zhA:∀{l  m:List UInt8},Op.bytesLess m l=true→Lib.compareBytes l m=1
 | [],_,h=>by simp [Op.bytesLess] at h
 |_::_,[],_=>rfl
 |a::l,b::m,h=>by
  simp only [Op.bytesLess,Bool.or_eq_true,Bool.and_eq_true,decide_eq_true_eq,beq_iff_eq] at h
  rw[zcJ]
  rcases h with h|⟨rfl,h⟩
  ·have h':b.toNat<a.toNat:=UInt8.lt_iff_toNat_lt.1 h
   have hne:a≠b:=fun e=>by subst e;omega
   rw[if_neg hne];unfold zB;rw[if_pos (by omega)]
  ·rw[if_pos rfl,zhA h]
theorem zuQ {a b:ByteArray}(h:blt a b=true):zaZ a b= -1:=by
 unfold blt at h;rw[zdc,zdc] at h;exact zhz h
theorem zuR {a b:ByteArray}(h:blt b a=true):zaZ a b=1:=by
 unfold blt at h;rw[zdc,zdc] at h;exact zhA h
theorem zqx (a:ByteArray):zaZ a a=0:=(zcH _ _).2 rfl
def zcj:List (ByteArray×GV) →List (ByteArray×GV)→Int
 |p::A,q::B=>if zaZ p.1 q.1≠0 then zaZ p.1 q.1 else if zar p.2 q.2≠0 then zar p.2 q.2 else zcj A B
 | [],[]=>0
 | [],_::_=> -1
 |_::_,[]=>1
theorem zpf:∀A  B:List (ByteArray×GV),cmpPm (A.map (·.1)) (A.map (·.2)) (B.map (·.1)) (B.map (·.2))=zcj A B
 | [],[]=>by simp [cmpPm,zcj,zB]
 | [],q::B=>by simp only [List.map_nil,List.map_cons];rw[zd0 (.inl rfl)];simp only [zcj,zB];rw[if_neg (by first|(simp;done)|(simp;omega)),if_pos (by first|(simp;done)|(simp;omega))]
 |p::A,[]=>by simp only [List.map_nil,List.map_cons];rw[zd0 (.inr rfl)];simp only [zcj,zB];rw[if_pos (by first|(simp;done)|(simp;omega))]
 |p::A,q::B=>by simp only [List.map_cons,cmpPm,zcj,zpf A B]
theorem zi4 {c:Tree→Tree→Int}:∀{l m:List Tree},(∀x∈l,∀y∈m,c x y=zar (zK x) (zK y))→zeG c l m=cmpPs (fromTs l) (fromTs m)
 | [],[],_=>by simp [zeG,fromTs,cmpPs]
 | [],_::_,_=>by simp [zeG,fromTs,cmpPs]
 |_::_,[],_=>by simp [zeG,fromTs,cmpPs]
 |x::l,y::m,h=>by
  simp only [zeG,fromTs,cmpPs]
  rw[zi4 (l:=l) (m:=m) fun a ha b hb=>h a (List.mem_cons_of_mem _ ha) b (List.mem_cons_of_mem _ hb),h x (List.mem_cons_self ..) y (List.mem_cons_self ..)]
def zsG (m:List (ByteArray×Tree))(V:List ByteArray)(A:List (ByteArray×GV)):Prop:=∀k∈V,(∀g,(k,g)∈A→∃x,Zr m k=some x∧(k,x)∈m∧g=zK x)∧(k∉A.map (·.1)→Zr m k=none)
theorem zhB {c:Tree→Tree→Int}{m1 m2:List (ByteArray×Tree)}(hc:∀x∈m1,∀y∈m2,c x.2 y.2=zar (zK x.2) (zK y.2)):
  ∀(V:List ByteArray) (A B:List (ByteArray×GV)) (i:Nat),zae A→zae B→V.Pairwise (fun a b=>blt a b=true)→(∀q,q∈V↔q∈A.map (·.1)∨q∈B.map (·.1))→i+A.length=m1.length→i+B.length=m2.length→zsG m1 V A→zsG m2 V B→zbX c m1 m2 i V=zcj A B
 | [],A,B,i,_,_,_,hV,_,_,_,_=>by
  cases A with
  |nil=>cases B with
   |nil=>simp [zbX,zcj]
   |cons q B=>have:=(hV q.1).2 (.inr (by simp));cases this
  |cons p A=>have:=(hV p.1).2 (.inl (by simp));cases this
 |k0::V,A,B,i,sA,sB,sV,hV,hA,hB,kA,kB=>by
  simp only [zbX]
  rw[List.pairwise_cons] at sV
  have h0:=(hV k0).1 (List.mem_cons_self ..)
  have one:∀r:Int,zaR c m1 m2 i k0=r→r≠0→(if zaR c m1 m2 i k0≠0 then zaR c m1 m2 i k0 else zbX c m1 m2 (i+1) V)=r:=fun r e hr=>by rw[e,if_pos hr]
  have least:∀q∈k0::V,q=k0∨blt k0 q=true:=fun q hq=>by
   rcases List.mem_cons.1 hq with h|h
   ·exact .inl h
   ·exact .inr (sV.1 q h)
  cases A with
  |nil=>cases B with
   |nil=>simp at h0
   |cons q B=>
    refine one _ ?_ (by simp [zcj])
    unfold zaR;rw[if_pos (by simpa using hA)];simp [zcj]
  |cons p A=>cases B with
   |nil=>
    refine one _ ?_ (by simp [zcj])
    unfold zaR;rw[if_neg (by simp at hA;omega),if_pos (by simpa using hB)];simp [zcj]
   |cons q B=>
    simp only [zae,List.map_cons,List.pairwise_cons] at sA sB
    simp only [List.length_cons] at hA hB
    have hn1:¬i=m1.length:=by omega
    have hn2:¬i=m2.length:=by omega
    have hp:p.1∈k0::V:=(hV p.1).2 (.inl (by simp))
    have hq:q.1∈k0::V:=(hV q.1).2 (.inr (by simp))
    have hk0:=List.mem_cons_self (a:=k0) (l:=V)
    rcases zfn p.1 q.1 with h|h|h
    ·
     have e:k0=p.1:=by
      rcases least _ hp with e|e
      ·exact e.symm
      ·have:blt k0 q.1=true:=ZB e h
       rcases h0 with h0|h0
       ·simp only [List.map_cons,List.mem_cons] at h0
        rcases h0 with h0|h0
        ·exact h0
        ·have:=ZB (sA.1 _ h0) e;rw[zV] at this;cases this
       ·simp only [List.map_cons,List.mem_cons] at h0
        rcases h0 with h0|h0
        ·rw[h0,zV] at this;cases this
        ·have:=ZB (sB.1 _ h0) this;rw[zV] at this;cases this
     subst e
     obtain ⟨x,hx,_,_⟩:=(kA _ hk0).1 p.2 (by simp)
     have hy:Zr m2 p.1=none:=(kB _ hk0).2 fun hm=>by
      simp only [List.map_cons,List.mem_cons] at hm
      rcases hm with hm|hm
      ·rw[hm,zV] at h;cases h
      ·have:=ZB (sB.1 _ hm) h;rw[zV] at this;cases this
     have hr:zcj (p::A) (q::B)= -1:=by simp [zcj,zuQ h]
     rw[hr]
     refine one _ ?_ (by decide)
     unfold zaR;rw[if_neg hn1,if_neg hn2,hx,hy]
    ·
     have e:k0=p.1:=by
      rcases least _ hp with e|e
      ·exact e.symm
      ·rcases h0 with h0|h0
       ·simp only [List.map_cons,List.mem_cons] at h0
        rcases h0 with h0|h0
        ·exact h0
        ·have:=ZB (sA.1 _ h0) e;rw[zV] at this;cases this
       ·simp only [List.map_cons,List.mem_cons] at h0
        rcases h0 with h0|h0
        ·rw[h0,h]
        ·have:=ZB (sB.1 _ h0) (h▸e);rw[zV] at this;cases this
     subst e
     obtain ⟨x,hx,hxm,ex⟩:=(kA _ hk0).1 p.2 (by simp)
     obtain ⟨y,hy,hym,ey⟩:=(kB _ hk0).1 q.2 (by rw[h];simp)
     have ho:zaR c m1 m2 i p.1=zar p.2 q.2:=by
      unfold zaR;rw[if_neg hn1,if_neg hn2,hx,hy,ex,ey]
      exact hc _ hxm _ hym
     rw[ho]
     have hr:zcj (p::A) (q::B)=if zar p.2 q.2≠0 then zar p.2 q.2 else zcj A B:=by simp only [zcj,←h,zqx];simp
     rw[hr]
     by_cases hz:zar p.2 q.2=0
     ·rw[if_neg (by simpa using hz),if_neg (by simpa using hz)]
      have hgt:∀k∈V,k≠p.1:=fun k hk e=>by have:=sV.1 k hk;rw[e,zV] at this;cases this
      refine zhB hc V A B (i+1) sA.2 sB.2 sV.2 (fun r=>?_) (by omega) (by omega) (fun k hk=>?_) fun k hk=>?_
      ·constructor
       ·intro hr
        have:=(hV r).1 (List.mem_cons_of_mem _ hr)
        simp only [List.map_cons,List.mem_cons] at this
        rcases this with (h1|h1)|(h1|h1)
        ·exact absurd h1 (hgt r hr)
        ·exact .inl h1
        ·exact absurd (h1.trans h.symm) (hgt r hr)
        ·exact .inr h1
       ·intro hr
        have:r∈p.1::V:=(hV r).2 (by rcases hr with h1|h1;exact .inl (by simp [h1]);exact .inr (by simp [h1]))
        rcases List.mem_cons.1 this with e|h1
        ·rcases hr with h2|h2
         ·have:=sA.1 r h2;rw[e,zV] at this;cases this
         ·have:=sB.1 r h2;rw[e,h,zV] at this;cases this
        ·exact h1
      ·obtain ⟨a1,a2⟩:=kA k (List.mem_cons_of_mem _ hk)
       exact ⟨fun g hg=>a1 g (List.mem_cons_of_mem _ hg),fun hn=>a2 fun hm=>by
        simp only [List.map_cons,List.mem_cons] at hm
        rcases hm with hm|hm
        ·exact hgt k hk hm
        ·exact hn hm⟩
      ·obtain ⟨a1,a2⟩:=kB k (List.mem_cons_of_mem _ hk)
       exact ⟨fun g hg=>a1 g (List.mem_cons_of_mem _ hg),fun hn=>a2 fun hm=>by
        simp only [List.map_cons,List.mem_cons] at hm
        rcases hm with hm|hm
        ·exact hgt k hk (hm.trans h.symm)
        ·exact hn hm⟩
     ·rw[if_pos hz,if_pos hz]
    ·
     have e:k0=q.1:=by
      rcases least _ hq with e|e
      ·exact e.symm
      ·have:blt k0 p.1=true:=ZB e h
       rcases h0 with h0|h0
       ·simp only [List.map_cons,List.mem_cons] at h0
        rcases h0 with h0|h0
        ·rw[h0,zV] at this;cases this
        ·have:=ZB (sA.1 _ h0) this;rw[zV] at this;cases this
       ·simp only [List.map_cons,List.mem_cons] at h0
        rcases h0 with h0|h0
        ·exact h0
        ·have:=ZB (sB.1 _ h0) e;rw[zV] at this;cases this
     subst e
     have hx:Zr m1 q.1=none:=(kA _ hk0).2 fun hm=>by
      simp only [List.map_cons,List.mem_cons] at hm
      rcases hm with hm|hm
      ·rw[hm,zV] at h;cases h
      ·have:=ZB (sA.1 _ hm) h;rw[zV] at this;cases this
     have hr:zcj (p::A) (q::B)=1:=by simp [zcj,zuR h]
     rw[hr]
     refine one _ ?_ (by decide)
     unfold zaR;rw[if_neg hn1,if_neg hn2,hx]
theorem zi5 {m:List (ByteArray×Tree)}(hn:(m.map (·.1)).Nodup)(V:List ByteArray):zsG m V (fromMs m):=fun k _=>
 ⟨fun g hg=>by
  obtain ⟨t,ht,e⟩:=zdr hg
  exact ⟨t,zb8 hn ht,ht,e⟩,fun hk=>zkp fun h=>hk ((zah k m).2 h)⟩
theorem zf1 {m:List (ByteArray×Tree)}(hn:(m.map (·.1)).Nodup):(fromMs m).length=m.length:=by
 have:=zcx (zch (ZD m)) hn fun q=>zah q m
 rwa[List.length_map,List.length_map] at this
theorem zg5:∀(n:Nat) (x y:Tree) ,dep x≤n→Zl x→Zl y→ziT n x y=zar (zK x) (zK y)
 |0,x,y,h,_,_=>by have:=zhU x;omega
 |n+1,x,y,h,hx,hy=>by
  unfold ziT
  cases x<;>cases y<;>simp only [zuJ,zK,zcU,zar]<;>(try (simp [rkV,zB,asF,zaZ];done))
  case bool.bool a b=>cases a<;>cases b<;>simp [rkV,zB,zuH]
  case list.list l m=>
   simp only [Zl] at hx hy
   simp only [dep] at h
   rw[zi4 fun a ha b hb=>zg5 n a b (by have:=zeW ha;omega) (hx.2.mem a ha) (hy.2.mem b hb)]
   simp [rkV,zB]
  case map.map l m=>
   simp only [Zl] at hx hy
   simp only [dep] at h
   have hu:=zmS l m (zgv l m)
   rw[zhB (fun a ha b hb=>zg5 n a.2 b.2 (by have:=zeX ha;omega) (hx.2.2.mem a ha) (hy.2.2.mem b hb)) (zdE l m) (fromMs l) (fromMs m) 0 (ZD l) (ZD m) hu.1
    (fun q=>by rw[hu.2 q,zah,zah]) (by rw[zf1 hx.2.1];omega) (by rw[zf1 hy.2.1];omega) (zi5 hx.2.1 _) (zi5 hy.2.1 _),←zpf]
   simp [rkV,zB]
theorem zg6 (a b:GV)(ha:Zl (zx a))(hb:Zl (zx b)):zmT (zx a) (zx b)=zar (zw a) (zw b):=by
 unfold zmT
 rw[zg5 _ _ _ (Nat.le_refl _) ha hb,zby,zby]
theorem zd1 (a b:GV):ACalls prog 124 [gvA a,gvA b] (fun r=>r=aI (zar (zw a) (zw b))):=by
 refine ze [(1,([3,4],[(0,[]),(2,[]),(1,[]),(3,[]),(4,[]),(5,[])]))] func124 (by kernel_rfl) rfl ntmps124 results124 (Nat.le_of_ble_eq_true (by kernel_rfl)) ?_;intro hok w0 S0
 clear hok
 have h:=zwF _ _ (zg4 a) (zg4 b)
 (repeat' (first|(with_reducible first|refine zj (fun _=>?_) (fun _=>?_)|refine zi (fun _=>?_) (fun _=>?_)|refine zl (zeo _) (by first|rfl|(simp -dsimp;done)) ?_|refine zA (zeo _) rfl (by first|rfl|(simp -dsimp;done)) (by first|rfl|(simp -dsimp;done)) ?_|refine zl (h) (by first|rfl|(simp -dsimp;done)) ?_|(refine zA (h) rfl ?_ ?_ ?_;iterate 2 exact by first|rfl|(simp -dsimp;done))|refine zk zb (by kernel_rfl) ?_|exact za rfl)|(simp -dsimp)));(all_goals try with_reducible refine za ?_)
end Go.Smd
end
