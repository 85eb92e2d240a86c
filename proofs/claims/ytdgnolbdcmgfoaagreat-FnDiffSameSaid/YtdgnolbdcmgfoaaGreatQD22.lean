/- Part 22. -/
import Derived.Test.YtdgnolbdcmgfoaaGreatQD21
set_option linter.unusedVariables false
set_option linter.unusedSimpArgs false
set_option maxRecDepth 100000
set_option maxHeartbeats 8000000
section
namespace Go.Smd
open Go.RowKit Go.Proofs Go.Proofs.Tryz
def zbu (s t:ByteArray):Int:=Lib.compareBytes s.data.toList t.data.toList
def rkV (k:Int):Int:=if k=2∨k=3 then 0 else if k=4 then 1 else if k=1 then 2 else if k=5 then 3 else if k=6 then 4 else 5
mutual
def zan:GV→GV→Int
 | .mk k n f s ks l,.mk k' n' f' s' ks' l'=>
  if zA (rkV k) (rkV k')≠0 then zA (rkV k) (rkV k')
  else if rkV k=0 then (if k=2∧k'=2 then zA n n' else zaO (asF k n f) (asF k' n' f'))
  else if rkV k=1 then zbu s s'
  else if rkV k=2 then zA n n'
  else if rkV k=3 then cmpPs l l'
  else if rkV k=4 then cmpPm ks l ks' l'
  else 0
def cmpPs:List GV→List GV→Int
 |x::l,y::m=>if zan x y≠0 then zan x y else cmpPs l m
 | [],[]=>0
 | [],_::_=> -1
 |_::_,[]=>1
def cmpPm:List ByteArray→List GV→List ByteArray→List GV→Int
 |k::ks,x::l,k'::ks',y::l'=>if zbu k k'≠0 then zbu k k' else if zan x y≠0 then zan x y else cmpPm ks l ks' l'
 |ks,_,ks',_=>zA ks.length ks'.length
end
theorem zjV (a:Int):zA a a=0:=by unfold zA;simp
theorem zrA (a b c:Int):zA (a+c) (b+c)=zA a b:=by
 unfold zA
 by_cases h1:b<a
 ·rw[if_pos h1,if_pos (by omega)]
 ·by_cases h2:a<b
  ·rw[if_neg h1,if_pos h2,if_neg (by omega),if_pos (by omega)]
  ·rw[if_neg h1,if_neg h2,if_neg (by omega),if_neg (by omega)]
theorem zfZ {a b:Nat}(c:Nat)(ha:c≤a)(hb:c≤b):zA (a:Int) b=zA ((a - c:Nat):Int) ((b - c:Nat):Int):=by
 rw[←zrA ((a - c:Nat):Int) ((b - c:Nat):Int) c]
 congr 1<;>omega
theorem Zk (a b:Int):ACalls prog 122 [aI a,aI b] (fun r=>r=aI (zA a b)):=by
 refine zf [] func122 (by kernel_rfl) rfl ntmps122 results122 (Nat.le_of_ble_eq_true (by kernel_rfl)) ?_;intro hok w0 S0
 clear hok
 (repeat' (first|(with_reducible first|refine zj (fun _=>?_) (fun _=>?_)|refine zi (fun _=>?_) (fun _=>?_)|refine zk zb (by kernel_rfl) ?_|exact za rfl)|(simp -dsimp)));(all_goals try with_reducible refine za ?_)
 ·rename_i h
  unfold zA;rw[if_neg (by omega),if_pos h]
 ·rename_i h1 h2
  unfold zA;rw[if_pos (by omega)]
 ·rename_i h1 h2
  unfold zA;rw[if_neg (by omega),if_neg (by omega)]
theorem zhd (a b:Nat):ACalls prog 212 [aV (.float .f64 a),aV (.float .f64 b)] (fun r=>r=aI (zaO a b)):=by
 refine zf [] func212 (by kernel_rfl) rfl ntmps212 results212 (Nat.le_of_ble_eq_true (by kernel_rfl)) ?_;intro hok w0 S0
 clear hok
 (repeat' (first|(with_reducible first|refine zj (fun _=>?_) (fun _=>?_)|refine zi (fun _=>?_) (fun _=>?_)|refine zk zb (by kernel_rfl) ?_|exact za rfl)|(simp -dsimp)));(all_goals try with_reducible refine za ?_)
 ·rename_i h
  have h:FloatKind.f64.format.order a b=some .lt:=by simpa using h
  unfold zaO;rw[h];rfl
 ·rename_i h1 h2
  unfold zaO;rw[if_pos (by simpa using h2)]
 ·rename_i h1 h2
  unfold zaO;rw[if_neg (by simpa using h2),if_neg (by simpa using h1)]
theorem ziu (k n:Int)(f:Nat)(s:ByteArray)(ks:List ByteArray)(l:List GV):ACalls prog 211 [gvX k n f s ks l] (fun r=>r=aI (rkV k)):=by
 refine zf [] func211 (by kernel_rfl) rfl ntmps211 results211 (Nat.le_of_ble_eq_true (by kernel_rfl)) ?_;intro hok w0 S0
 clear hok
 (repeat' (first|(with_reducible first|refine zj (fun _=>?_) (fun _=>?_)|refine zi (fun _=>?_) (fun _=>?_)|refine zk zb (by kernel_rfl) ?_|exact za rfl)|(simp -dsimp)));(all_goals try with_reducible refine za ?_)
 all_goals simp_all [rkV]
theorem zmf (s:ByteArray)(i:Nat)(h:i<s.size):s.data.toList.drop i=s[i]::s.data.toList.drop (i+1):=by
 rw[List.drop_eq_getElem_cons (by simpa using h)]
 rfl
theorem zcs (a b:UInt8)(l m:List UInt8):Lib.compareBytes (a::l) (b::m)=if a=b then Lib.compareBytes l m else zA (a.toNat:Int) b.toNat:=by
 simp only [Lib.compareBytes]
 unfold zA
 by_cases h:a<b
 ·have h':a.toNat<b.toNat:=UInt8.lt_iff_toNat_lt.1 h
  have hne:a≠b:=fun e=>by subst e;omega
  rw[if_pos h,if_neg hne,if_neg (by omega),if_pos (by omega)]
 ·by_cases h2:b<a
  ·have h':b.toNat<a.toNat:=UInt8.lt_iff_toNat_lt.1 h2
   have hne:a≠b:=fun e=>by subst e;omega
   rw[if_neg h,if_pos h2,if_neg hne,if_pos (by omega)]
  ·have he:a=b:=by
    rw[UInt8.lt_iff_toNat_lt] at h h2
    exact UInt8.toNat_inj.1 (by omega)
   rw[if_neg h,if_neg h2,if_pos he]
theorem zk9 (l m:List UInt8)(h:l= []∨m= []):Lib.compareBytes l m=zA (l.length:Int) m.length:=by
 cases l with
 |nil=>cases m with
  |nil=>rfl
  |cons y m=>simp only [Lib.compareBytes,zA];rw[if_neg (by first|(simp;done)|(simp;omega)),if_pos (by first|(simp;done)|(simp;omega))]
 |cons x l=>cases m with
  |nil=>simp only [Lib.compareBytes,zA];rw[if_pos (by first|(simp;done)|(simp;omega))]
  |cons y m=>simp at h
theorem zbC (s t:ByteArray):ACalls prog 121 [aS s,aS t] (fun r=>r=aI (zbu s t)):=by
 refine zf [(4,([],[(0,[]),(1,[]),(2,[]),(3,[]),(4,[]),(5,[]),(6,[])])),(5,([8],[(0,[]),(1,[]),(2,[]),(3,[]),(4,[]),(5,[]),(6,[]),(7,[]),(8,[]),(9,[])]))] func121 (by kernel_rfl) rfl ntmps121 results121 (Nat.le_of_ble_eq_true (by kernel_rfl)) ?_;intro hok w0 S0
 have b1:=zeY (zn8 (hok (aS s) (by simp)))
 have b2:=zeY (zn8 (hok (aS t) (by simp)))
 clear hok
 (repeat' (first|(with_reducible first|refine zj (fun _=>?_) (fun _=>?_)|refine zi (fun _=>?_) (fun _=>?_)|refine zk zb (by kernel_rfl) ?_|exact za rfl)|(simp -dsimp)));(all_goals try with_reducible refine za ?_)
 refine zF (fun i:Nat=>⟨[(0,aS s),(1,aS t),(5,aI i)],[]⟩) (fun i=>i≤s.size∧i≤t.size∧zbu s t=Lib.compareBytes (s.data.toList.drop i) (t.data.toList.drop i)) (fun i=>s.size - i) 0 ?_ ⟨Nat.zero_le _,Nat.zero_le _,rfl⟩ ?_
 ·exact Weak.same (by simp -dsimp) (by simp -dsimp) (by first|rfl|(simp [zg,Av.ids,Ow.ids,Cl.ids,Go.Smd.keys];done))
 ·rintro i ⟨hi,hj,heq⟩ K hK
  have hw:IntKind.wrap .i64 ((i:Int)+1)=((i+1:Nat):Int):=by rw[zq]<;>omega
  have hend:¬(i<s.size∧i<t.size)→zbu s t=zA (s.size:Int) t.size:=fun h=>by
   have l1:(s.data.toList.drop i).length=s.size - i:=by rw[List.length_drop,Array.length_toList];rfl
   have l2:(t.data.toList.drop i).length=t.size - i:=by rw[List.length_drop,Array.length_toList];rfl
   rw[heq,zk9 _ _ (by
    by_cases h1:i<s.size
    ·exact .inr (List.eq_nil_of_length_eq_zero (by omega))
    ·exact .inl (List.eq_nil_of_length_eq_zero (by omega))),l1,l2,←zfZ i hi hj]
  by_cases h1:i<s.size
  ·by_cases h2:i<t.size
   ·have hc:zbu s t=if s[i]=t[i] then Lib.compareBytes (s.data.toList.drop (i+1)) (t.data.toList.drop (i+1)) else zA (s[i].toNat:Int) t[i].toNat:=by
     rw[heq,zmf s i h1,zmf t i h2,zcs]
    have hcc:=Zk (s[i].toNat:Int) t[i].toNat
    by_cases he:s[i]=t[i]
    ·rw[if_pos he] at hc
     (repeat' (first|(with_reducible first|refine zj (fun _=>?_) (fun _=>?_)|refine zi (fun _=>?_) (fun _=>?_)|refine zl (hcc) (by first|rfl|(simp -dsimp [hw,h1,h2,he,zcr];done)) ?_|(refine zx (hcc) rfl ?_ ?_ ?_;iterate 2 exact by first|rfl|(simp -dsimp [hw,h1,h2,he,zcr];done))|refine zk zb (by kernel_rfl) ?_|exact za rfl)|(simp -dsimp [hw,h1,h2,he,zcr])));(all_goals try with_reducible refine za ?_)
     refine hK _ (i+1) ?_ ⟨by omega,by omega,hc⟩ (by omega)
     exact Weak.same (by simp -dsimp) (by simp -dsimp) (by first|rfl|(simp [zg,Av.ids,Ow.ids,Cl.ids,Go.Smd.keys];done))
    ·rw[if_neg he] at hc
     have he2:¬((s[i].toNat:Int)=t[i].toNat):=fun e=>he (UInt8.toNat_inj.1 (by omega))
     (repeat' (first|(with_reducible first|refine zj (fun _=>?_) (fun _=>?_)|refine zi (fun _=>?_) (fun _=>?_)|refine zl (hcc) (by first|rfl|(simp -dsimp [hw,h1,h2,he,he2,zcr];done)) ?_|(refine zx (hcc) rfl ?_ ?_ ?_;iterate 2 exact by first|rfl|(simp -dsimp [hw,h1,h2,he,he2,zcr];done))|refine zk zb (by kernel_rfl) ?_|exact za rfl)|(simp -dsimp [hw,h1,h2,he,he2,zcr])));(all_goals try with_reducible refine za ?_)
     rw[hc]
   ·have hcc:=Zk (s.size:Int) t.size
    have hc:=hend (fun h=>h2 h.2)
    (repeat' (first|(with_reducible first|refine zj (fun _=>?_) (fun _=>?_)|refine zi (fun _=>?_) (fun _=>?_)|refine zl (hcc) (by first|rfl|(simp -dsimp [hw,h1,h2];done)) ?_|(refine zx (hcc) rfl ?_ ?_ ?_;iterate 2 exact by first|rfl|(simp -dsimp [hw,h1,h2];done))|refine zk zb (by kernel_rfl) ?_|exact za rfl)|(simp -dsimp [hw,h1,h2])));(all_goals try with_reducible refine za ?_)
    rw[hc]
  ·have hcc:=Zk (s.size:Int) t.size
   have hc:=hend (fun h=>h1 h.1)
   (repeat' (first|(with_reducible first|refine zj (fun _=>?_) (fun _=>?_)|refine zi (fun _=>?_) (fun _=>?_)|refine zl (hcc) (by first|rfl|(simp -dsimp [hw,h1];done)) ?_|(refine zx (hcc) rfl ?_ ?_ ?_;iterate 2 exact by first|rfl|(simp -dsimp [hw,h1];done))|refine zk zb (by kernel_rfl) ?_|exact za rfl)|(simp -dsimp [hw,h1])));(all_goals try with_reducible refine za ?_)
   rw[hc]
end Go.Smd
end
