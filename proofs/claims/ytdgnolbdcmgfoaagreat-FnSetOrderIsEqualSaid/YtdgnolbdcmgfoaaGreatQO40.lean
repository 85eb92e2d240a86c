/- The law FnSetOrderIsEqual holds of every two lists of paths: their sets are equal exactly if they are listed alike. -/
import Derived.Test.YtdgnolbdcmgfoaaGreatQO39
import Derived.Test.YtdgnolbdcmgfoaaGreatQO35
import Derived.Test.YtdgnolbdcmgfoaaGreatQO33
set_option linter.unusedVariables false
set_option linter.unusedSimpArgs false
set_option maxRecDepth 100000
set_option maxHeartbeats 8000000
section
namespace Go.Smd
open Go.RowKit Go.Proofs Go.Proofs.Tryz
abbrev GoodL (l:List (List EV)):Prop:=∀p∈l,PthS p∧∀e∈p,GoodE e
theorem zlA (l:List (List EV))(hl:l.length≤1000000000000)(hg:GoodL l):ACalls prog 89 [.c (.d (ZY l))] (fun r=>r= .c (.d (.pt (psD (mkP l))))):=ztR l (by omega) fun p hp=>⟨(hg p hp).1.1,(hg p hp).2⟩
theorem GoodL.ok {l:List (List EV)}(hg:GoodL l):OkS l.length (mkP l):=zeW _ l rfl fun p hp=>(hg p hp).2
theorem GoodL.full {l:List (List EV)}(hg:GoodL l):(mkP l).full:=zi6 _ l rfl fun p hp=>(hg p hp).2
theorem GoodL.depth {l:List (List EV)}(hg:GoodL l):(mkP l).depth*168≤140737488351232:=by
 have:=zkJ _ l rfl (fun p hp=>(hg p hp).2) 837723144947 (by omega) fun p hp=>by have:=(hg p hp).1.1;omega
 omega
theorem GoodL.size {l:List (List EV)}(hg:GoodL l):(mkP l).size≤l.length:=by
 obtain ⟨_,h,_⟩:=zlu _ l rfl fun p hp=>(hg p hp).2
 have:=zvx l
 omega
theorem zqc {N:Nat}(s:PS)(ok:OkS N s)(hN:N≤1000000000000)(hd:s.depth*168≤140737488351232)(hs:s.size≤1000000000000):ACalls prog 88 [.c (.d (.pt (psD s)))] (fun r=>r= .c (.d (ZY (lsS s)))):=zqb N (by omega) s ok hd (by omega)
theorem zkK (l:List (List EV))(hl:l.length≤1000000000000)(hg:GoodL l):ACalls prog 41 [.c (.d (ZY l))] (fun r=>r= .c (.d (ZY (lsS (mkP l))))):=by
 have c1:=zlA l hl hg
 have hz:=hg.size
 have c2:=zqc (mkP l) hg.ok hl hg.depth (by omega)
 generalize psD (mkP l)=X at c1 c2
 generalize lsS (mkP l)=Y at c2 ⊢
 refine zg [] func41 (by kernel_rfl) rfl ntmps41 results41 (Nat.le_of_ble_eq_true (by kernel_rfl)) ?_;intro hok w0 S0
 clear hok
 (repeat' (first|(with_reducible first|refine zl (fun _=>?_) (fun _=>?_)|refine zk (fun _=>?_) (fun _=>?_)|refine zt (c1) (by first|rfl|(simp -dsimp;done)) ?_|refine zt (c2) (by first|rfl|(simp -dsimp;done)) ?_|refine zm zd (by kernel_rfl) ?_|exact zc rfl)|(simp -dsimp)));(all_goals try with_reducible refine zc ?_)
theorem ze6 (a b:List (List EV))(la:a.length≤1000000000000)(lb:b.length≤1000000000000)(ga:GoodL a)(gb:GoodL b):ACalls prog 39 [.c (.d (ZY a)),.c (.d (ZY b))] (fun r=>r=aV (.bool (ze2 (mkP a) (mkP b)))):=by
 have c1:=zlA a la ga
 have c2:=zlA b lb gb
 have c3:=zvz a.length b.length (by omega) (by omega) (mkP a) ga.ok (mkP b) gb.ok
 unfold CEq at c3
 generalize ze2 (mkP a) (mkP b)=q at c3 ⊢
 generalize psD (mkP a)=X at c1 c3
 generalize psD (mkP b)=Y at c2 c3
 refine zg [] func39 (by kernel_rfl) rfl ntmps39 results39 (Nat.le_of_ble_eq_true (by kernel_rfl)) ?_;intro hok w0 S0
 clear hok
 (repeat' (first|(with_reducible first|refine zl (fun _=>?_) (fun _=>?_)|refine zk (fun _=>?_) (fun _=>?_)|refine zt (c1) (by first|rfl|(simp -dsimp;done)) ?_|refine zt (c2) (by first|rfl|(simp -dsimp;done)) ?_|refine zt (c3) (by first|rfl|(simp -dsimp;done)) ?_|refine zm zd (by kernel_rfl) ?_|exact zc rfl)|(simp -dsimp)));(all_goals try with_reducible refine zc ?_)
theorem PthS.take {p:List EV}(h:PthS p)(n:Nat):PthS (p.take n):=⟨by have:=h.1;rw[List.length_take];omega,fun e he=>h.2 e (List.mem_of_mem_take he)⟩
theorem zlB (a b:List (List EV)):ACalls prog 7 [.c (.d (ZY a)),.c (.d (ZY b))] (fun r=>r=aV (.bool true)):=by
 refine zg [] func7 (by kernel_rfl) rfl ntmps7 results7 (Nat.le_of_ble_eq_true (by kernel_rfl)) ?_;intro hok w0 S0
 have ka:=zmS (hok (.c (.d (ZY a))) (by simp))
 have kb:=zmS (hok (.c (.d (ZY b))) (by simp))
 clear hok
 have b1:a.length≤9223372036854775807:=by omega
 have b2:b.length≤9223372036854775807:=by omega
 by_cases la:a.length≤2147483647
 ·by_cases lb:b.length≤2147483647
  ·have n1:¬(2147483647<(a.length:Int)):=by omega
   have n2:¬(2147483647<(b.length:Int)):=by omega
   have c0:=zv0 a b (by omega)
   have t1:=ziZ (a++b) (by rw[List.length_append];omega) fun p hp=>by
    rcases List.mem_append.1 hp with hp|hp
    ·exact ⟨(ka.2 p hp).1.1,(ka.2 p hp).1.2⟩
    ·exact ⟨(kb.2 p hp).1.1,(kb.2 p hp).1.2⟩
   (repeat' (first|(with_reducible first|refine zl (fun _=>?_) (fun _=>?_)|refine zk (fun _=>?_) (fun _=>?_)|refine zt (c0) (by first|rfl|(simp -dsimp [b1,b2,n1,n2];done)) ?_)|((with_reducible refine zlc (t1) (by first|rfl|(simp -dsimp [b1,b2,n1,n2];done)) ?_);rintro _ ⟨x,rfl,hx⟩ _)|((with_reducible refine zld (t1) rfl ?_ ?_ ?_;iterate 2 exact by first|rfl|(simp -dsimp [b1,b2,n1,n2];done));rintro _ ⟨x,rfl,hx⟩ _)|(with_reducible first|refine zm zd (by kernel_rfl) ?_|exact zc rfl)|(simp -dsimp [b1,b2,n1,n2])));(all_goals try with_reducible refine zc ?_)
   have good:=hx (by simpa using ‹(!x)=false›)
   have ga:GoodL a:=fun p hp=>⟨(ka.2 p hp).1,fun e he=>⟨(ka.2 p hp).1.2 e he,(ka.2 p hp).2 e he,good p (List.mem_append_left _ hp) e he⟩⟩
   have gb:GoodL b:=fun p hp=>⟨(kb.2 p hp).1,fun e he=>⟨(kb.2 p hp).1.2 e he,(kb.2 p hp).2 e he,good p (List.mem_append_right _ hp) e he⟩⟩
   have za:=ga.size
   have zb:=gb.size
   have lla:(lsS (mkP a)).length≤2147483647:=by rw[List.length_map,PS.list_length];omega
   have llb:(lsS (mkP b)).length≤2147483647:=by rw[List.length_map,PS.list_length];omega
   have gla:GoodL (lsS (mkP a)):=zmZ ga.ok ga.depth
   have glb:GoodL (lsS (mkP b)):=zmZ gb.ok gb.depth
   have c1:=ze6 a b (by omega) (by omega) ga gb
   have c2:=zkK a (by omega) ga
   have c3:=zkK b (by omega) gb
   have c4:=zsC (lsS (mkP a)) (lsS (mkP b)) (by omega) (by omega) (fun p hp=>(gla p hp).1) fun p hp=>(glb p hp).1
   have c5:=ze6 a (lsS (mkP a)) (by omega) (by omega) ga gla
   rw[zvZ ga.ok ga.full] at c5
   rw[zug ga.ok ga.full gb.ok gb.full] at c1
   generalize zg2 (lsS (mkP a)) (lsS (mkP b))=q at c1 c4
   generalize lsS (mkP a)=Q2 at c2 c4 c5
   generalize lsS (mkP b)=Q3 at c3 c4
   cases q<;>(repeat' (first|(with_reducible first|refine zl (fun _=>?_) (fun _=>?_)|refine zk (fun _=>?_) (fun _=>?_)|refine zt (c1) (by first|rfl|(simp -dsimp;done)) ?_|refine zt (c2) (by first|rfl|(simp -dsimp;done)) ?_|refine zt (c3) (by first|rfl|(simp -dsimp;done)) ?_|refine zt (c4) (by first|rfl|(simp -dsimp;done)) ?_|refine zt (c5) (by first|rfl|(simp -dsimp;done)) ?_|refine zm zd (by kernel_rfl) ?_|exact zc rfl)|(simp -dsimp)));(all_goals try with_reducible refine zc ?_)
  ·have n1:¬(2147483647<(a.length:Int)):=by omega
   have n2:(2147483647<(b.length:Int)):=by omega
   (repeat' (first|(with_reducible first|refine zl (fun _=>?_) (fun _=>?_)|refine zk (fun _=>?_) (fun _=>?_)|refine zm zd (by kernel_rfl) ?_|exact zc rfl)|(simp -dsimp [b1,b2,n1,n2])));(all_goals try with_reducible refine zc ?_)
 ·have n1:(2147483647<(a.length:Int)):=by omega
  (repeat' (first|(with_reducible first|refine zl (fun _=>?_) (fun _=>?_)|refine zk (fun _=>?_) (fun _=>?_)|refine zm zd (by kernel_rfl) ?_|exact zc rfl)|(simp -dsimp [b1,b2,n1])));(all_goals try with_reducible refine zc ?_)
end Go.Smd
end
section
namespace Go.Proofs.YtdgnolbdcmgfoaaGreat
open Go.Smd Go.RowKit Go.Proofs Go.Proofs.Tryz Go.ChangeShapes Go.WideShapes Go.ChangeAt
theorem zhx (os:Os)(started:os.Started)(H:Type)(enc:TypeId×Value→H):
  ReturnsInHanded {} Tryz.checked os 7 .any (Rows.fnSetOrderIsEqualSpec.pre6 enc prog Tryz.f7 Rows.fnSetOrderIsEqualRow.domain false) (Rows.fnSetOrderIsEqualSpec.post enc prog Tryz.f7 false true false false):=by
 refine zss func7 rfl rfl (by decide+kernel) (by kernel_rfl) started (fun ds h=>?_)
  (ChangeSpec.witness6 (enc:=enc) (C:=Tryz.checked) false ⟨#[], #[.slice none 0 0,.slice none 0 0],[]⟩ 8 (by kernel_rfl) (by kernel_rfl) (by kernel_rfl) (by kernel_rfl)) ?_
 ·match ds,h with
  | [d1,d2],_=>rfl
 ·intro W args ds p hA hw hval
  obtain ⟨_,hval⟩:=hval
  rw[params7] at hA hw hval
  obtain ⟨v1,vs1,d1,ds1,p1,q1,e1,rfl,rfl,t1,hA⟩:=trodAll_cons hA
  obtain ⟨v2,vs2,d2,ds2,p2,q2,rfl,rfl,rfl,t2,hA⟩:=trodAll_cons hA
  obtain ⟨rfl,rfl,rfl⟩:=trodAll_nil hA
  have ea:args= #[v1,v2]:=by rw[←Array.toArray_toList (xs:=args),e1]
  subst ea
  simp only [DataW.weightsEach] at hw
  have hw:Light (DataW.weights prog 32 d1++(DataW.weights prog 32 d2++ [])):=hw
  have w1:=hw.append.1
  have w2:=hw.append.2.append.1
  obtain ⟨_,_,_,h1⟩:=okWide_slice underlying32 (hval 0 32 v1 rfl rfl)
  obtain ⟨_,_,_,h2⟩:=okWide_slice underlying32 (hval 1 32 v2 rfl rfl)
  obtain ⟨a1,_,g1,ra1⟩:=zmQ t1 w1 (fun n=>zb5 (E:=22) (e:=fun p:List EV=>[ZT p]) (by kernel_rfl) (fun s=>by kernel_rfl) fun m _=>zb5 (E:=29) (e:=evD) (by kernel_rfl) (fun s=>by simp) fun m _=>zi4) (fun l=>⟨_,rfl⟩) (fun cs h=>by rw[h1] at h;cases h)
  obtain ⟨a2,_,g2,ra2⟩:=zmQ t2 w2 (fun n=>zb5 (E:=22) (e:=fun p:List EV=>[ZT p]) (by kernel_rfl) (fun s=>by kernel_rfl) fun m _=>zb5 (E:=29) (e:=evD) (by kernel_rfl) (fun s=>by simp) fun m _=>zi4) (fun l=>⟨_,rfl⟩) (fun cs h=>by rw[h2] at h;cases h)
  cases g1
  cases g2
  exact zrH (zlB a1 a2) (.cons ra1 (.cons ra2 .nil))
theorem zjx:laidOutB Tryz.pinned.checked.prog=true:=by kernel_rfl
theorem zjy:mapsRowed Tryz.pinned.checked.prog=true:=by kernel_rfl
theorem zjz:(Rows.fnSetOrderIsEqualRow.inPlace==Tryz.pinned.checked.prog.inPlace 7)=true:=by kernel_rfl
theorem zlC:(Rows.fnSetOrderIsEqualRow.unfollowed==Tryz.pinned.checked.prog.unfollowed 7)=true:=by kernel_rfl
theorem zlD:(Rows.fnSetOrderIsEqualRow.recurses==Tryz.pinned.checked.prog.recurses 7)=true:=by kernel_rfl
theorem zi9:(Rows.fnSetOrderIsEqualRow.named==Tryz.pinned.checked.prog.varsNamed 7)=true:=by kernel_rfl
theorem zm1:(Rows.fnSetOrderIsEqualRow.plainKeys==Tryz.pinned.checked.prog.plainKeys)=true:=by kernel_rfl
theorem zja:Tryz.pinned.checked.prog.stopsHeard=true:=by kernel_rfl
theorem zlE:Tryz.pinned.checked.prog.mayEnter=true:=by kernel_rfl
theorem zjA:(Rows.fnSetOrderIsEqualRow.lifted==Tryz.pinned.checked.prog.liftsFinal)=true:=by kernel_rfl
theorem zjB:(Tryz.pinned.checked.prog.make==some Rows.fnSetOrderIsEqualRow.make)=true:=by kernel_rfl
theorem zhy:joinedFacts Tryz.pinned.checked.prog 7 Tryz.f7 Rows.fnSetOrderIsEqualSpec Rows.fnSetOrderIsEqualRow=true:=by
 unfold joinedFacts
 rw[zjx,zjy,zjz,zlC,zlD,zi9,zm1,zja,zlE,zjA,zjB]
 kernel_rfl
theorem setOrder_holds:Rows.FnSetOrderIsEqualSaid:=
 OpenClaim.holds_of_wide 7 Tryz.f7 rfl rfl rfl rfl rfl rfl rfl ⟨rfl,rfl,rfl,rfl,rfl⟩ rfl rfl rfl rfl rfl (by kernel_rfl) func7 zhy
  (of_decide_eq_true (by kernel_rfl)) (by unfold Func.isWrapper;first|(rw[if_pos (by decide+kernel)];kernel_rfl)|(rw[if_neg (by decide+kernel)];exact ⟨rfl,rfl⟩))
  (fun os started H enc _=>zhx os started H enc)
end Go.Proofs.YtdgnolbdcmgfoaaGreat
end
#print axioms Go.Proofs.YtdgnolbdcmgfoaaGreat.setOrder_holds
