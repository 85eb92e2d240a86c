/- The law FnDiffSame holds of every comparison: it tells no difference exactly if none of its three sets has a path, and having excluded all of its paths it tells none. -/
import Derived.Test.YtdgnolbdcmgfoaaGreatQD43
import Derived.Test.YtdgnolbdcmgfoaaGreatQD34
set_option linter.unusedVariables false
set_option linter.unusedSimpArgs false
set_option maxRecDepth 100000
set_option maxHeartbeats 8000000
section
namespace Go.Smd
open Go.RowKit Go.Proofs Go.Proofs.Tryz
abbrev zv7:TypeId:=228
abbrev zwZ:TypeId:=66
noncomputable abbrev dfA (a b c:List (List EV)):Av:=.agg [.d (zU a),.d (zU b),.d (zU c)]
theorem zbX {l:List (List EV)}(hg:GoodL l):(mkP l).none=true↔∀p∈l,p= []:=by
 have hg2:∀p∈l,∀e∈p,GoodE e:=fun p hp=>(hg p hp).2
 constructor
 ·intro h p hp
  apply Classical.byContradiction
  intro hne
  have ho:zli p:=fun e he=>(hg2 p hp e he).o
  have:=(zhq hg2 hne ho).2 ⟨p,hp,hne,zdL.refl ho⟩
  rw[zmE h] at this;cases this
 ·intro h
  rw[PS.none_iff]
  apply Classical.byContradiction
  intro h0
  obtain ⟨q,hq,hqg,hh⟩:=zmB _ hg.ok hg.full h0
  obtain ⟨p,hp,hne,_⟩:=(zhq hg2 hq fun e he=>(hqg e he).o).1 hh
  exact hne (h p hp)
theorem zsw {l:List (List EV)}(hg:GoodL l):(mkW l).length=(mkP l).size:=by
 obtain ⟨_,h,_⟩:=zf6 _ l rfl fun p hp=>(hg p hp).2
 exact h.symm
theorem zum {a x:List (List EV)}(ga:GoodL a)(gx:GoodL x)(h:∀p∈a,p∈x):(opS oRd (mkP a) (mkP x)).none=true:=by
 have ho:=zoE oRd (mkP a) ga.ok (mkP x)
 have hga:∀p∈a,∀e∈p,GoodE e:=fun p hp=>(ga p hp).2
 have hgx:∀p∈x,∀e∈p,GoodE e:=fun p hp=>(gx p hp).2
 rw[PS.none_iff]
 apply Classical.byContradiction
 intro h0
 obtain ⟨q,hq,hqg,hh⟩:=zmB _ ho.1 (ho.2.2.2 ga.full) h0
 have hqo:zli q:=fun e he=>(hqg e he).o
 rw[zsr oRd q hq hqo ga.ok gx.ok,Bool.and_eq_true,zss q hq] at hh
 obtain ⟨p,hp,hne,h1⟩:=(zhq hga hq hqo).1 hh.1
 have h2:=(zhq hgx hq hqo).2 ⟨p,h p hp,hne,h1⟩
 have h3:zds (mkP x) q=true:=(zgI q hqo gx.ok).2 ⟨q.length,List.length_pos_iff.2 hq,Nat.le_refl _,by rw[List.take_length];exact h2⟩
 rw[h3] at hh
 simp at hh
theorem zsx {s:PS}(h:s.none=true):lsS s= []:=by
 have h1:=(PS.none_iff s).1 h
 rw[←PS.list_length] at h1
 have h2:=List.eq_nil_of_length_eq_zero h1
 unfold lsS
 rw[h2];rfl
theorem zsy (a b c:List (List EV))(la:a.length≤9223372036854775807)(lb:b.length≤9223372036854775807)(lc:c.length≤9223372036854775807):ACalls prog 36 [dfA a b c] (fun r=>r=aV (.bool (decide (a.length≤2147483647∧b.length≤2147483647∧c.length≤2147483647)))):=by
 by_cases h1:a.length≤2147483647
 ·have n1:¬(2147483647<(a.length:Int)):=by omega
  by_cases h2:b.length≤2147483647
  ·have n2:¬(2147483647<(b.length:Int)):=by omega
   by_cases h3:c.length≤2147483647
   ·have n3:¬(2147483647<(c.length:Int)):=by omega
    rw[decide_eq_true ⟨h1,h2,h3⟩]
    refine zf [] func36 (by kernel_rfl) rfl ntmps36 results36 (Nat.le_of_ble_eq_true (by kernel_rfl)) ?_;intro hok w0 S0
    clear hok
    (repeat' (first|(with_reducible first|refine zj (fun _=>?_) (fun _=>?_)|refine zi (fun _=>?_) (fun _=>?_)|refine zk zb (by kernel_rfl) ?_|exact za rfl)|(simp -dsimp [la,lb,lc,n1,n2,n3])));(all_goals try with_reducible refine za ?_)
   ·have n3:(2147483647<(c.length:Int)):=by omega
    rw[decide_eq_false fun h=>h3 h.2.2]
    refine zf [] func36 (by kernel_rfl) rfl ntmps36 results36 (Nat.le_of_ble_eq_true (by kernel_rfl)) ?_;intro hok w0 S0
    clear hok
    (repeat' (first|(with_reducible first|refine zj (fun _=>?_) (fun _=>?_)|refine zi (fun _=>?_) (fun _=>?_)|refine zk zb (by kernel_rfl) ?_|exact za rfl)|(simp -dsimp [la,lb,lc,n1,n2,n3])));(all_goals try with_reducible refine za ?_)
  ·have n2:(2147483647<(b.length:Int)):=by omega
   rw[decide_eq_false fun h=>h2 h.2.1]
   refine zf [] func36 (by kernel_rfl) rfl ntmps36 results36 (Nat.le_of_ble_eq_true (by kernel_rfl)) ?_;intro hok w0 S0
   clear hok
   (repeat' (first|(with_reducible first|refine zj (fun _=>?_) (fun _=>?_)|refine zi (fun _=>?_) (fun _=>?_)|refine zk zb (by kernel_rfl) ?_|exact za rfl)|(simp -dsimp [la,lb,lc,n1,n2])));(all_goals try with_reducible refine za ?_)
 ·have n1:(2147483647<(a.length:Int)):=by omega
  rw[decide_eq_false fun h=>h1 h.1]
  refine zf [] func36 (by kernel_rfl) rfl ntmps36 results36 (Nat.le_of_ble_eq_true (by kernel_rfl)) ?_;intro hok w0 S0
  clear hok
  (repeat' (first|(with_reducible first|refine zj (fun _=>?_) (fun _=>?_)|refine zi (fun _=>?_) (fun _=>?_)|refine zk zb (by kernel_rfl) ?_|exact za rfl)|(simp -dsimp [la,lb,lc,n1])));(all_goals try with_reducible refine za ?_)
noncomputable abbrev zmL (A B C:PS):List D:=[.pt (psD A),.pt (psD B),.pt (psD C)]
theorem Zt (s:PS):∃M K,psD s= [.sl tPE M,.sl tSN K]:=by cases s;exact ⟨_,_,zcI _ _⟩
theorem zsz (a b c:List (List EV))(la:a.length≤1000000000000)(lb:b.length≤1000000000000)(lc:c.length≤1000000000000)(ga:GoodL a)(gb:GoodL b)(gc:GoodL c):
  ACalls prog 96 [dfA a b c] (fun r=>r= .c (.d (.pt (zmL (mkP a) (mkP b) (mkP c))))):=by
 have c1:=zek a la ga
 have c2:=zek b lb gb
 have c3:=zek c lc gc
 obtain ⟨M1,K1,e1⟩:=Zt (mkP a)
 obtain ⟨M2,K2,e2⟩:=Zt (mkP b)
 obtain ⟨M3,K3,e3⟩:=Zt (mkP c)
 unfold zmL dfA
 rw[e1] at c1 ⊢
 rw[e2] at c2 ⊢
 rw[e3] at c3 ⊢
 refine zf [(1,([8],[(0,[]),(1,[]),(3,[]),(4,[]),(6,[]),(7,[]),(2,[]),(5,[]),(8,[]),(9,[]),(10,[]),(11,[])]))] func96 (by kernel_rfl) rfl ntmps96 results96 (Nat.le_of_ble_eq_true (by kernel_rfl)) ?_;intro hok w0 S0
 clear hok
 (repeat' (first|(with_reducible first|refine zj (fun _=>?_) (fun _=>?_)|refine zi (fun _=>?_) (fun _=>?_)|refine zl (c1) (by first|rfl|(simp -dsimp;done)) ?_|(refine zx (c1) rfl ?_ ?_ ?_;iterate 2 exact by first|rfl|(simp -dsimp;done))|refine zl (c2) (by first|rfl|(simp -dsimp;done)) ?_|(refine zx (c2) rfl ?_ ?_ ?_;iterate 2 exact by first|rfl|(simp -dsimp;done))|refine zl (c3) (by first|rfl|(simp -dsimp;done)) ?_|(refine zx (c3) rfl ?_ ?_ ?_;iterate 2 exact by first|rfl|(simp -dsimp;done))|refine zk zb (by kernel_rfl) ?_|exact za rfl)|(simp -dsimp)));(all_goals try with_reducible refine za ?_)
theorem zsA (a b c:List (List EV))(la:a.length≤1000000000000)(lb:b.length≤1000000000000)(lc:c.length≤1000000000000)(ga:GoodL a)(gb:GoodL b)(gc:GoodL c):
  AProc prog 96 [dfA a b c] [] (fun r own'=>r= .c (.own 13 0)∧own'= [(13,.cells [.d (.pt (psD (mkP a))),.d (.pt (psD (mkP b))),.d (.pt (psD (mkP c)))] zv7),(1,.cells [.d (zU a),.d (zU b),.d (zU c)] zwZ)]):=by
 have c1:=zek a la ga
 have c2:=zek b lb gb
 have c3:=zek c lc gc
 obtain ⟨M1,K1,e1⟩:=Zt (mkP a)
 obtain ⟨M2,K2,e2⟩:=Zt (mkP b)
 obtain ⟨M3,K3,e3⟩:=Zt (mkP c)
 rw[e1] at c1 ⊢
 rw[e2] at c2 ⊢
 rw[e3] at c3 ⊢
 refine zaj [(1,([8],[(0,[]),(1,[]),(3,[]),(4,[]),(6,[]),(7,[]),(2,[]),(5,[]),(8,[]),(9,[]),(10,[]),(11,[])]))] func96 (by kernel_rfl) rfl ntmps96 results96 (Nat.le_of_ble_eq_true (by kernel_rfl)) ?_;intro hok w0 S0
 (repeat' (first|(with_reducible first|refine zj (fun _=>?_) (fun _=>?_)|refine zi (fun _=>?_) (fun _=>?_)|refine zl (c1) (by first|rfl|(simp -dsimp;done)) ?_|(refine zx (c1) rfl ?_ ?_ ?_;iterate 2 exact by first|rfl|(simp -dsimp;done))|refine zl (c2) (by first|rfl|(simp -dsimp;done)) ?_|(refine zx (c2) rfl ?_ ?_ ?_;iterate 2 exact by first|rfl|(simp -dsimp;done))|refine zl (c3) (by first|rfl|(simp -dsimp;done)) ?_|(refine zx (c3) rfl ?_ ?_ ?_;iterate 2 exact by first|rfl|(simp -dsimp;done))|refine zk zb (by kernel_rfl) ?_|exact za rfl)|(simp -dsimp)));(all_goals try with_reducible refine za ?_)
 exact ⟨rfl,rfl⟩
theorem zsB {N:Nat}(hN:N≤3000000000000)(A B C:PS)(oA:OkS N A)(oB:OkS N B)(oC:OkS N C):ACalls prog 97 [.c (.d (.pt (zmL A B C)))] (fun r=>r=aV (.bool (A.none && (B.none && C.none)))):=by
 have c1:=zdK N hN A oA
 have c2:=zdK N hN B oB
 have c3:=zdK N hN C oC
 unfold zdq at c1 c2 c3
 obtain ⟨M1,K1,e1⟩:=Zt A
 obtain ⟨M2,K2,e2⟩:=Zt B
 obtain ⟨M3,K3,e3⟩:=Zt C
 unfold zmL
 rw[e1] at c1 ⊢
 rw[e2] at c2 ⊢
 rw[e3] at c3 ⊢
 generalize A.none=x at c1 ⊢
 generalize B.none=y at c2 ⊢
 generalize C.none=z at c3 ⊢
 cases x<;>cases y<;>
  (refine zf [] func97 (by kernel_rfl) rfl ntmps97 results97 (Nat.le_of_ble_eq_true (by kernel_rfl)) ?_;intro hok w0 S0
   clear hok
   (repeat' (first|(with_reducible first|refine zj (fun _=>?_) (fun _=>?_)|refine zi (fun _=>?_) (fun _=>?_)|refine zl (c1) (by first|rfl|(simp -dsimp;done)) ?_|refine zl (c2) (by first|rfl|(simp -dsimp;done)) ?_|refine zl (c3) (by first|rfl|(simp -dsimp;done)) ?_|refine zk zb (by kernel_rfl) ?_|exact za rfl)|(simp -dsimp)));(all_goals try with_reducible refine za ?_))
theorem ziR (a b c:List (List EV))(la:a.length≤1000000000000)(lb:b.length≤1000000000000)(lc:c.length≤1000000000000)(ga:GoodL a)(gb:GoodL b)(gc:GoodL c):
  ACalls prog 37 [dfA a b c] (fun r=>r=aV (.bool ((mkP a).none && ((mkP b).none && (mkP c).none)))):=by
 have c1:=zsz a b c la lb lc ga gb gc
 have c2:=zsB (N:=1000000000000) (by omega) (mkP a) (mkP b) (mkP c) (ga.ok.mono la) (gb.ok.mono lb) (gc.ok.mono lc)
 unfold zmL at c1 c2
 generalize psD (mkP a)=A at c1 c2
 generalize psD (mkP b)=B at c1 c2
 generalize psD (mkP c)=C at c1 c2
 generalize ((mkP a).none && ((mkP b).none && (mkP c).none))=q at c2 ⊢
 refine zf [] func37 (by kernel_rfl) rfl ntmps37 results37 (Nat.le_of_ble_eq_true (by kernel_rfl)) ?_;intro hok w0 S0
 clear hok
 (repeat' (first|(with_reducible first|refine zj (fun _=>?_) (fun _=>?_)|refine zi (fun _=>?_) (fun _=>?_)|refine zl (c1) (by first|rfl|(simp -dsimp;done)) ?_|refine zl (c2) (by first|rfl|(simp -dsimp;done)) ?_|refine zk zb (by kernel_rfl) ?_|exact za rfl)|(simp -dsimp)));(all_goals try with_reducible refine za ?_)
theorem znT {N:Nat}(A B C:PS)(oA:OkS N A)(oB:OkS N B)(oC:OkS N C)(hN:N≤1000000000000)(dA:A.depth*168≤140737488351232)(dB:B.depth*168≤140737488351232)(dC:C.depth*168≤140737488351232)(sA:A.size≤1000000000000)(sB:B.size≤1000000000000)(sC:C.size≤1000000000000):
  ACalls prog 98 [.c (.d (.pt (zmL A B C)))] (fun r=>r=dfA (lsS A) (lsS B) (lsS C)):=by
 have c1:=zgJ A oA hN dA sA
 have c2:=zgJ B oB hN dB sB
 have c3:=zgJ C oC hN dC sC
 obtain ⟨M1,K1,e1⟩:=Zt A
 obtain ⟨M2,K2,e2⟩:=Zt B
 obtain ⟨M3,K3,e3⟩:=Zt C
 unfold zmL
 rw[e1] at c1 ⊢
 rw[e2] at c2 ⊢
 rw[e3] at c3 ⊢
 generalize lsS A=x at c1 ⊢
 generalize lsS B=y at c2 ⊢
 generalize lsS C=z at c3 ⊢
 refine zf [(1,([14],[(0,[]),(1,[]),(2,[]),(3,[]),(5,[]),(6,[]),(7,[]),(8,[]),(10,[]),(11,[]),(12,[]),(13,[]),(4,[]),(9,[]),(14,[]),(15,[]),(16,[])]))] func98 (by kernel_rfl) rfl ntmps98 results98 (Nat.le_of_ble_eq_true (by kernel_rfl)) ?_;intro hok w0 S0
 clear hok
 (repeat' (first|(with_reducible first|refine zj (fun _=>?_) (fun _=>?_)|refine zi (fun _=>?_) (fun _=>?_)|refine zl (c1) (by first|rfl|(simp -dsimp;done)) ?_|(refine zx (c1) rfl ?_ ?_ ?_;iterate 2 exact by first|rfl|(simp -dsimp;done))|refine zl (c2) (by first|rfl|(simp -dsimp;done)) ?_|(refine zx (c2) rfl ?_ ?_ ?_;iterate 2 exact by first|rfl|(simp -dsimp;done))|refine zl (c3) (by first|rfl|(simp -dsimp;done)) ?_|(refine zx (c3) rfl ?_ ?_ ?_;iterate 2 exact by first|rfl|(simp -dsimp;done))|refine zk zb (by kernel_rfl) ?_|exact za rfl)|(simp -dsimp)));(all_goals try with_reducible refine za ?_)
def exS (A x:PS):PS:=bif x.none then A else opS oRd A x
theorem zpX {N:Nat}(hN:N≤1000000000000)(A B C x:PS)(oA:OkS N A)(oB:OkS N B)(oC:OkS N C)(ox:OkS N x):
  AProc prog 99 [.c (.own 1000000000 0),.c (.d (.pt (psD x)))] [(1000000000,.cells [.d (.pt (psD A)),.d (.pt (psD B)),.d (.pt (psD C))] zv7)]
   (fun r own'=>r= .c (.own 1000000000 0)∧own'= [(1000000000,.cells [.d (.pt (psD (exS A x))),.d (.pt (psD (exS B x))),.d (.pt (psD (exS C x)))] zv7)]):=by
 have c0:=zdK N (by omega) x ox
 have c1:=znS N N hN hN A oA x ox
 have c2:=znS N N hN hN B oB x ox
 have c3:=znS N N hN hN C oC x ox
 unfold zdq at c0
 unfold CRd at c1 c2 c3
 obtain ⟨M1,K1,e1⟩:=Zt A
 obtain ⟨M2,K2,e2⟩:=Zt B
 obtain ⟨M3,K3,e3⟩:=Zt C
 obtain ⟨M0,K0,e0⟩:=Zt x
 unfold exS
 cases hx:x.none with
 |true=>
  rw[hx] at c0
  simp only [cond]
  rw[e0] at c0 ⊢
  rw[e1,e2,e3]
  refine zaj [] func99 (by kernel_rfl) rfl ntmps99 results99 (Nat.le_of_ble_eq_true (by kernel_rfl)) ?_;intro hok w0 S0
  (repeat' (first|(with_reducible first|refine zj (fun _=>?_) (fun _=>?_)|refine zi (fun _=>?_) (fun _=>?_)|refine zl (c0) (by first|rfl|(simp -dsimp;done)) ?_|refine zk zb (by kernel_rfl) ?_|exact za rfl)|(simp -dsimp)));(all_goals try with_reducible refine za ?_)
  exact ⟨rfl,rfl⟩
 |false=>
  rw[hx] at c0
  simp only [cond]
  rw[e0] at c0 c1 c2 c3 ⊢
  rw[e1] at c1 ⊢
  rw[e2] at c2 ⊢
  rw[e3] at c3 ⊢
  obtain ⟨M4,K4,e4⟩:=Zt (opS oRd A x)
  obtain ⟨M5,K5,e5⟩:=Zt (opS oRd B x)
  obtain ⟨M6,K6,e6⟩:=Zt (opS oRd C x)
  rw[e4] at c1 ⊢
  rw[e5] at c2 ⊢
  rw[e6] at c3 ⊢
  refine zaj [] func99 (by kernel_rfl) rfl ntmps99 results99 (Nat.le_of_ble_eq_true (by kernel_rfl)) ?_;intro hok w0 S0
  (repeat' (first|(with_reducible first|refine zj (fun _=>?_) (fun _=>?_)|refine zi (fun _=>?_) (fun _=>?_)|refine zl (c0) (by first|rfl|(simp -dsimp;done)) ?_|refine zl (c1) (by first|rfl|(simp -dsimp;done)) ?_|refine zl (c2) (by first|rfl|(simp -dsimp;done)) ?_|refine zl (c3) (by first|rfl|(simp -dsimp;done)) ?_|refine zk zb (by kernel_rfl) ?_|exact za rfl)|(simp -dsimp)));(all_goals try with_reducible refine za ?_)
  exact ⟨rfl,rfl⟩
theorem znU {N:Nat}{A:PS}(x:PS)(oA:OkS N A):OkS N (exS A x)∧(exS A x).depth≤A.depth∧(exS A x).size≤A.size:=by
 unfold exS
 cases x.none with
 |true=>exact ⟨oA,Nat.le_refl _,Nat.le_refl _⟩
 |false=>have:=zoE oRd A oA x;exact ⟨this.1,this.2.1,this.2.2.1⟩
theorem zjg (a b c x:List (List EV))(la:a.length≤1000000000000)(lb:b.length≤1000000000000)(lc:c.length≤1000000000000)(lx:x.length≤1000000000000)(ga:GoodL a)(gb:GoodL b)(gc:GoodL c)(gx:GoodL x):
  ACalls prog 38 [dfA a b c,.c (.d (zU x))] (fun r=>r=dfA (lsS (exS (mkP a) (mkP x))) (lsS (exS (mkP b) (mkP x))) (lsS (exS (mkP c) (mkP x)))):=by
 have oa:=ga.ok.mono la
 have ob:=gb.ok.mono lb
 have oc:=gc.ok.mono lc
 have ox:=gx.ok.mono lx
 have ka:=znU (mkP x) oa
 have kb:=znU (mkP x) ob
 have kc:=znU (mkP x) oc
 have c1:=zsA a b c la lb lc ga gb gc
 have c2:=zek x lx gx
 have c3:=zpX (N:=1000000000000) (by omega) (mkP a) (mkP b) (mkP c) (mkP x) oa ob oc ox
 have c4:=znT (exS (mkP a) (mkP x)) (exS (mkP b) (mkP x)) (exS (mkP c) (mkP x)) ka.1 kb.1 kc.1 (by omega) (by have:=ga.depth;have:=ka.2.1;omega) (by have:=gb.depth;have:=kb.2.1;omega) (by have:=gc.depth;have:=kc.2.1;omega)
  (by have:=ga.size;have:=ka.2.2;omega) (by have:=gb.size;have:=kb.2.2;omega) (by have:=gc.size;have:=kc.2.2;omega)
 obtain ⟨M1,K1,e1⟩:=Zt (mkP a)
 obtain ⟨M2,K2,e2⟩:=Zt (mkP b)
 obtain ⟨M3,K3,e3⟩:=Zt (mkP c)
 obtain ⟨M0,K0,e0⟩:=Zt (mkP x)
 obtain ⟨M4,K4,e4⟩:=Zt (exS (mkP a) (mkP x))
 obtain ⟨M5,K5,e5⟩:=Zt (exS (mkP b) (mkP x))
 obtain ⟨M6,K6,e6⟩:=Zt (exS (mkP c) (mkP x))
 unfold dfA at c1 c4 ⊢
 unfold zmL at c4
 rw[e1,e2,e3] at c1 c3
 rw[e0] at c2 c3
 rw[e4,e5,e6] at c3 c4
 generalize lsS (exS (mkP a) (mkP x))=Q1 at c4 ⊢
 generalize lsS (exS (mkP b) (mkP x))=Q2 at c4 ⊢
 generalize lsS (exS (mkP c) (mkP x))=Q3 at c4 ⊢
 refine zf [] func38 (by kernel_rfl) rfl ntmps38 results38 (Nat.le_of_ble_eq_true (by kernel_rfl)) ?_;intro hok w0 S0
 clear hok
 (repeat' (first|(with_reducible first|refine zj (fun _=>?_) (fun _=>?_)|refine zi (fun _=>?_) (fun _=>?_))|((with_reducible apply zcH (ρ:=[]) 7 (c1));(case hc=>simp -dsimp<;>first|exact ⟨rfl,rfl,rfl⟩|exact ⟨rfl,rfl⟩|done);(case hx=>simp -dsimp<;>with_reducible rfl);(case ho=>simp -dsimp);(case hh=>simp -dsimp);(case hb=>simp -dsimp))|(with_reducible refine zl (c2) (by first|rfl|(simp -dsimp;done)) ?_)|((with_reducible apply zcH (ρ:=[(1000000000,8013)]) 7 (c3));(case hc=>simp -dsimp<;>first|exact ⟨rfl,rfl,rfl⟩|exact ⟨rfl,rfl⟩|done);(case hx=>simp -dsimp<;>with_reducible rfl);(case ho=>simp -dsimp);(case hh=>simp -dsimp);(case hb=>simp -dsimp))|(with_reducible first|refine zl (c4) (by first|rfl|(simp -dsimp;done)) ?_|refine zk zb (by kernel_rfl) ?_|exact za rfl)|(simp -dsimp)));(all_goals try with_reducible refine za ?_)
theorem zlp {a x:List (List EV)}(ga:GoodL a)(gx:GoodL x)(h:∀p∈a,p∈x):lsS (exS (mkP a) (mkP x))= []:=by
 refine zsx ?_
 unfold exS
 cases hx:(mkP x).none with
 |true=>exact (zbX ga).2 fun p hp=>(zbX gx).1 hx p (h p hp)
 |false=>exact zum ga gx h
theorem zlq (a b c:List (List EV)):ACalls prog 6 [dfA a b c] (fun r=>r=aV (.bool true)):=by
 unfold dfA
 refine zf [(3,([7],[(0,[]),(1,[]),(2,[]),(3,[]),(5,[]),(6,[]),(4,[]),(7,[]),(8,[])]))] func6 (by kernel_rfl) rfl ntmps6 results6 (Nat.le_of_ble_eq_true (by kernel_rfl)) ?_;intro hok w0 S0
 have h2:∀d∈ [zU a,zU b,zU c],okD prog d:=fun d hd=>zkP (hok (dfA a b c) (by simp)) (.d d) (by
  simp only [List.mem_cons,List.not_mem_nil,or_false] at hd
  rcases hd with rfl|rfl|rfl<;>simp) d rfl
 have ka:=ziL (h2 (zU a) (by simp))
 have kb:=ziL (h2 (zU b) (by simp))
 have kc:=ziL (h2 (zU c) (by simp))
 clear hok h2
 have ba:a.length≤9223372036854775807:=by omega
 have bb:b.length≤9223372036854775807:=by omega
 have bc:c.length≤9223372036854775807:=by omega
 have c0:=zsy a b c ba bb bc
 by_cases hl:a.length≤2147483647∧b.length≤2147483647∧c.length≤2147483647
 ·rw[decide_eq_true hl] at c0
  obtain ⟨la,lb,lc⟩:=hl
  have c1:=zst a b (by omega)
  have c2:=zst (a++b) c (by rw[List.length_append];omega)
  have t1:=ziJ (a++b++c) (by rw[List.length_append,List.length_append];omega) fun p hp=>by
   rcases List.mem_append.1 hp with hp|hp
   ·rcases List.mem_append.1 hp with hp|hp
    ·exact ⟨(ka.2 p hp).1.1,(ka.2 p hp).1.2⟩
    ·exact ⟨(kb.2 p hp).1.1,(kb.2 p hp).1.2⟩
   ·exact ⟨(kc.2 p hp).1.1,(kc.2 p hp).1.2⟩
  obtain ⟨L,hL⟩:∃L,L=a++b++c:=⟨_,rfl⟩
  rw[←hL] at c2 t1
  obtain ⟨AB,hAB⟩:∃AB,AB=a++b:=⟨_,rfl⟩
  rw[←hAB] at c1 c2
  unfold dfA at c0
  (repeat' (first|(with_reducible first|refine zj (fun _=>?_) (fun _=>?_)|refine zi (fun _=>?_) (fun _=>?_)|refine zl (c0) (by first|rfl|(simp -dsimp;done)) ?_|(refine zx (c0) rfl ?_ ?_ ?_;iterate 2 exact by first|rfl|(simp -dsimp;done))|refine zl (c1) (by first|rfl|(simp -dsimp;done)) ?_|(refine zx (c1) rfl ?_ ?_ ?_;iterate 2 exact by first|rfl|(simp -dsimp;done))|refine zl (c2) (by first|rfl|(simp -dsimp;done)) ?_|(refine zx (c2) rfl ?_ ?_ ?_;iterate 2 exact by first|rfl|(simp -dsimp;done)))|((with_reducible refine zkW (t1) (by first|rfl|(simp -dsimp;done)) ?_);rintro _ ⟨x,rfl,hx⟩ _)|((with_reducible refine zkX (t1) rfl ?_ ?_ ?_;iterate 2 exact by first|rfl|(simp -dsimp;done));rintro _ ⟨x,rfl,hx⟩ _)|(with_reducible first|refine zk zb (by kernel_rfl) ?_|exact za rfl)|(simp -dsimp)));(all_goals try with_reducible refine za ?_)
  have good:=hx (by simpa using ‹(!x)=false›)
  have ga:GoodL a:=fun p hp=>⟨(ka.2 p hp).1,fun e he=>⟨(ka.2 p hp).1.2 e he,(ka.2 p hp).2 e he,good p (by rw[hL];simp [hp]) e he⟩⟩
  have gb:GoodL b:=fun p hp=>⟨(kb.2 p hp).1,fun e he=>⟨(kb.2 p hp).1.2 e he,(kb.2 p hp).2 e he,good p (by rw[hL];simp [hp]) e he⟩⟩
  have gc:GoodL c:=fun p hp=>⟨(kc.2 p hp).1,fun e he=>⟨(kc.2 p hp).1.2 e he,(kc.2 p hp).2 e he,good p (by rw[hL];simp [hp]) e he⟩⟩
  have gL:GoodL L:=fun p hp=>by
   rw[hL] at hp
   rcases List.mem_append.1 hp with hp|hp
   ·rcases List.mem_append.1 hp with hp|hp
    ·exact ga p hp
    ·exact gb p hp
   ·exact gc p hp
  have lL:L.length≤7000000000:=by rw[hL,List.length_append,List.length_append];omega
  have d1:=ziR a b c (by omega) (by omega) (by omega) ga gb gc
  have d2:=ztZ L (by omega) gL
  have d3:=zjg a b c L (by omega) (by omega) (by omega) (by omega) ga gb gc gL
  rw[zlp ga gL fun p hp=>by rw[hL];simp [hp],zlp gb gL fun p hp=>by rw[hL];simp [hp],zlp gc gL fun p hp=>by rw[hL];simp [hp]] at d3
  have d4:=ziR [] [] [] (by simp) (by simp) (by simp) (fun p hp=>by simp at hp) (fun p hp=>by simp at hp) fun p hp=>by simp at hp
  have hz:((mkP a).none && ((mkP b).none && (mkP c).none))=decide ((mkW L).length=0):=by
   rw[Bool.eq_iff_iff,Bool.and_eq_true,Bool.and_eq_true,decide_eq_true_eq,zsw gL,←PS.none_iff,zbX ga,zbX gb,zbX gc,zbX gL,hL]
   simp only [List.mem_append]
   constructor
   ·rintro ⟨h1,h2,h3⟩ p ((hp|hp)|hp)
    ·exact h1 p hp
    ·exact h2 p hp
    ·exact h3 p hp
   ·exact fun h=>⟨fun p hp=>h p (.inl (.inl hp)),fun p hp=>h p (.inl (.inr hp)),fun p hp=>h p (.inr hp)⟩
  rw[hz] at d1
  have hz2:((mkP []).none && ((mkP []).none && (mkP []).none))=true:=by simp [PS.empty,PS.none,PK.none]
  rw[hz2] at d4
  have hmap:((mkW L).map cP).length=(mkW L).length:=List.length_map ..
  have hle:=zsj L
  generalize (mkW L).map cP=W at d2 hmap
  rw[←hmap] at d1 hle
  have bW:W.length≤9223372036854775807:=by omega
  unfold dfA at d1 d3 d4
  by_cases hw:W.length=0
  ·have hwi:(W.length:Int)=0:=by omega
   rw[decide_eq_true hw] at d1
   (repeat' (first|(with_reducible first|refine zj (fun _=>?_) (fun _=>?_)|refine zi (fun _=>?_) (fun _=>?_)|refine zl (d1) (by first|rfl|(simp -dsimp [bW,hw,hwi];done)) ?_|(refine zx (d1) rfl ?_ ?_ ?_;iterate 2 exact by first|rfl|(simp -dsimp [bW,hw,hwi];done))|refine zl (d2) (by first|rfl|(simp -dsimp [bW,hw,hwi];done)) ?_|(refine zx (d2) rfl ?_ ?_ ?_;iterate 2 exact by first|rfl|(simp -dsimp [bW,hw,hwi];done))|refine zl (d3) (by first|rfl|(simp -dsimp [bW,hw,hwi];done)) ?_|(refine zx (d3) rfl ?_ ?_ ?_;iterate 2 exact by first|rfl|(simp -dsimp [bW,hw,hwi];done))|refine zl (d4) (by first|rfl|(simp -dsimp [bW,hw,hwi];done)) ?_|(refine zx (d4) rfl ?_ ?_ ?_;iterate 2 exact by first|rfl|(simp -dsimp [bW,hw,hwi];done))|refine zk zb (by kernel_rfl) ?_|exact za rfl)|(simp -dsimp [bW,hw,hwi])));(all_goals try with_reducible refine za ?_)
  ·have hwi:¬(W.length:Int)=0:=by omega
   rw[decide_eq_false hw] at d1
   (repeat' (first|(with_reducible first|refine zj (fun _=>?_) (fun _=>?_)|refine zi (fun _=>?_) (fun _=>?_)|refine zl (d1) (by first|rfl|(simp -dsimp [bW,hw,hwi];done)) ?_|(refine zx (d1) rfl ?_ ?_ ?_;iterate 2 exact by first|rfl|(simp -dsimp [bW,hw,hwi];done))|refine zl (d2) (by first|rfl|(simp -dsimp [bW,hw,hwi];done)) ?_|(refine zx (d2) rfl ?_ ?_ ?_;iterate 2 exact by first|rfl|(simp -dsimp [bW,hw,hwi];done))|refine zl (d3) (by first|rfl|(simp -dsimp [bW,hw,hwi];done)) ?_|(refine zx (d3) rfl ?_ ?_ ?_;iterate 2 exact by first|rfl|(simp -dsimp [bW,hw,hwi];done))|refine zl (d4) (by first|rfl|(simp -dsimp [bW,hw,hwi];done)) ?_|(refine zx (d4) rfl ?_ ?_ ?_;iterate 2 exact by first|rfl|(simp -dsimp [bW,hw,hwi];done))|refine zk zb (by kernel_rfl) ?_|exact za rfl)|(simp -dsimp [bW,hw,hwi])));(all_goals try with_reducible refine za ?_)
 ·rw[decide_eq_false hl] at c0
  unfold dfA at c0
  (repeat' (first|(with_reducible first|refine zj (fun _=>?_) (fun _=>?_)|refine zi (fun _=>?_) (fun _=>?_)|refine zl (c0) (by first|rfl|(simp -dsimp;done)) ?_|(refine zx (c0) rfl ?_ ?_ ?_;iterate 2 exact by first|rfl|(simp -dsimp;done))|refine zk zb (by kernel_rfl) ?_|exact za rfl)|(simp -dsimp)));(all_goals try with_reducible refine za ?_)
end Go.Smd
end
section
namespace Go.Smd
open Go.RowKit Go.Proofs Go.Proofs.Tryz Go.ChangeShapes Go.WideShapes Go.Deep
theorem zeP {H:Type}{enc:TypeId×Value→H}{w:World}{held:Bool}{n:Nat}:OpensAt enc w held prog n 32 (fun l=>[zU l]):=
 zdl (E:=22) (e:=fun p:List EV=>[z9 p]) (by kernel_rfl) (fun s=>by kernel_rfl) fun m _=>zdl (E:=29) (e:=evD) (by kernel_rfl) (fun s=>by simp) fun m _=>znN
theorem znV {H:Type}{enc:TypeId×Value→H}{w:World}{held:Bool}{n:Nat}:OpensAt enc w held prog n 66 (fun x:List (List EV)×List (List EV)×List (List EV)=>[zU x.1,zU x.2.1,zU x.2.2]):=by
 have hf:∀m,m<n→FieldsAt enc w held prog m 0 [32,32,32] _:=fun m _=>
  .cons zeP (.cons zeP (.cons zeP .nil))
 have hT: [32,32,32]=(zf8 prog 66).toList.map (·.type):=by kernel_rfl
 rw[hT] at hf
 refine zf7 (fs:=zf8 prog 66) (by kernel_rfl) (by kernel_rfl) (by kernel_rfl) ?_ hf
 ·rintro ds ⟨a,_,rfl,b,_,rfl,c,_,rfl,rfl⟩
  exact ⟨⟨a,b,c⟩,by simp⟩
end Go.Smd
end
section
namespace Go.Proofs.YtdgnolbdcmgfoaaGreat
open Go.Smd Go.RowKit Go.Proofs Go.Proofs.Tryz Go.ChangeShapes Go.WideShapes Go.ChangeAt
theorem zhh (os:Os)(started:os.Started)(H:Type)(enc:TypeId×Value→H):
  ReturnsInHanded {} Tryz.checked os 6 .any (Rows.fnDiffSameSpec.pre6 enc prog Tryz.f6 Rows.fnDiffSameRow.domain false) (Rows.fnDiffSameSpec.post enc prog Tryz.f6 false true false false):=by
 refine zsg func6 rfl rfl (by decide+kernel) (by kernel_rfl) started (fun ds h=>?_)
  (ChangeSpec.witness6 (enc:=enc) (C:=Tryz.checked) false ⟨#[], #[.agg #[.slice none 0 0,.slice none 0 0,.slice none 0 0]],[]⟩ 8 (by kernel_rfl) (by kernel_rfl) (by kernel_rfl) (by kernel_rfl)) ?_
 ·match ds,h with
  | [d1],_=>rfl
 ·intro W args ds p hA hw hval
  obtain ⟨_,hval⟩:=hval
  rw[params6] at hA hw hval
  obtain ⟨v1,vs1,d1,ds1,p1,q1,e1,rfl,rfl,t1,hA⟩:=trodAll_cons hA
  obtain ⟨rfl,rfl,rfl⟩:=trodAll_nil hA
  have ea:args= #[v1]:=by rw[←Array.toArray_toList (xs:=args),e1]
  subst ea
  simp only [DataW.weightsEach] at hw
  have hw:Light (DataW.weights prog 66 d1++ []):=hw
  have w1:=hw.append.1
  obtain ⟨a1,ra1⟩:=zsh t1 w1 (fun n=>znV) (fun g=>by simp)
  exact zrx (zlq a1.1 a1.2.1 a1.2.2) (.cons ra1 .nil)
theorem zjh:laidOutB Tryz.pinned.checked.prog=true:=by kernel_rfl
theorem zji:mapsRowed Tryz.pinned.checked.prog=true:=by kernel_rfl
theorem zjj:(Rows.fnDiffSameRow.inPlace==Tryz.pinned.checked.prog.inPlace 6)=true:=by kernel_rfl
theorem zlr:(Rows.fnDiffSameRow.unfollowed==Tryz.pinned.checked.prog.unfollowed 6)=true:=by kernel_rfl
theorem zls:(Rows.fnDiffSameRow.recurses==Tryz.pinned.checked.prog.recurses 6)=true:=by kernel_rfl
theorem ziS:(Rows.fnDiffSameRow.named==Tryz.pinned.checked.prog.varsNamed 6)=true:=by kernel_rfl
theorem zmM:(Rows.fnDiffSameRow.plainKeys==Tryz.pinned.checked.prog.plainKeys)=true:=by kernel_rfl
theorem ziT:Tryz.pinned.checked.prog.stopsHeard=true:=by kernel_rfl
theorem zlt:Tryz.pinned.checked.prog.mayEnter=true:=by kernel_rfl
theorem zjk:(Rows.fnDiffSameRow.lifted==Tryz.pinned.checked.prog.liftsFinal)=true:=by kernel_rfl
theorem zjl:(Tryz.pinned.checked.prog.make==some Rows.fnDiffSameRow.make)=true:=by kernel_rfl
theorem zhi:joinedFacts Tryz.pinned.checked.prog 6 Tryz.f6 Rows.fnDiffSameSpec Rows.fnDiffSameRow=true:=by
 unfold joinedFacts
 rw[zjh,zji,zjj,zlr,zls,ziS,zmM,ziT,zlt,zjk,zjl]
 kernel_rfl
theorem diffSame_holds:Rows.FnDiffSameSaid:=
 OpenClaim.holds_of_wide 6 Tryz.f6 rfl rfl rfl rfl rfl rfl rfl ⟨rfl,rfl,rfl,rfl,rfl⟩ rfl rfl rfl rfl rfl (by kernel_rfl) func6 zhi
  (of_decide_eq_true (by kernel_rfl)) (by unfold Func.isWrapper;first|(rw[if_pos (by decide+kernel)];kernel_rfl)|(rw[if_neg (by decide+kernel)];exact ⟨rfl,rfl⟩))
  (fun os started H enc _=>zhh os started H enc)
end Go.Proofs.YtdgnolbdcmgfoaaGreat
end
#print axioms Go.Proofs.YtdgnolbdcmgfoaaGreat.diffSame_holds
