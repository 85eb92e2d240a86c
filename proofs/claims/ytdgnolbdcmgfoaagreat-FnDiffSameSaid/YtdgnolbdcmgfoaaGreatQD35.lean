/- Part 35. -/
import Derived.Test.YtdgnolbdcmgfoaaGreatQD34
set_option linter.unusedVariables false
set_option linter.unusedSimpArgs false
set_option maxRecDepth 100000
set_option maxHeartbeats 8000000
section
namespace Go.Smd
open Go.RowKit Go.Proofs Go.Proofs.Tryz
abbrev PthS (p:List EV):Prop:=p.length*168≤140737488351232∧∀e∈p,EVs e
theorem zf9 {α:Type}{l:List α}{i:Nat}(h:i<l.length):(l.drop (i+1)).isEmpty=decide (i=l.length - 1):=by
 rw[Bool.eq_iff_iff,List.isEmpty_iff,decide_eq_true_eq,List.drop_eq_nil_iff]
 omega
theorem zfa (a b:List EV)(ha:PthS a)(hb:PthS b):ACalls prog 153 [.c (.d (z9 a)),.c (.d (z9 b))] (fun r=>r=aI (zbq a b)):=by
 have b1:a.length≤9223372036854775807:=by have:=ha.1;omega
 have b2:b.length≤9223372036854775807:=by have:=hb.1;omega
 refine zf [(4,([8],[(0,[]),(1,[]),(2,[]),(3,[]),(4,[]),(5,[]),(6,[]),(7,[]),(8,[]),(9,[])]))] func153 (by kernel_rfl) rfl ntmps153 results153 (Nat.le_of_ble_eq_true (by kernel_rfl)) ?_;intro hok w0 S0
 clear hok
 (repeat' (first|(with_reducible first|refine zj (fun _=>?_) (fun _=>?_)|refine zi (fun _=>?_) (fun _=>?_)|refine zk zb (by kernel_rfl) ?_|exact za rfl)|(simp -dsimp [b1,b2])));(all_goals try with_reducible refine za ?_)
 refine zF (fun i:Nat=>⟨[(0,.c (.d (z9 a))),(1,.c (.d (z9 b))),(5,aI i)],[]⟩) (fun i=>i≤a.length∧i≤b.length∧zbq (a.drop i) (b.drop i)=zbq a b) (fun i=>a.length - i) 0 ?_ ⟨Nat.zero_le _,Nat.zero_le _,rfl⟩ ?_
 ·exact Weak.same (by simp -dsimp) (by simp -dsimp) (by first|rfl|(simp [zg,Av.ids,Ow.ids,Cl.ids,Go.Smd.keys];done))
 ·rintro i ⟨hi,hi2,hw0⟩ K hK
  by_cases h1:i<a.length
  ·by_cases h2:i<b.length
   ·have hw:IntKind.wrap .i64 ((i:Int)+1)=((i+1:Nat):Int):=by rw[zq]<;>omega
    have hwa:IntKind.wrap .i64 ((a.length:Int) - 1)=((a.length - 1:Nat):Int):=by rw[zq]<;>omega
    have hwb:IntKind.wrap .i64 ((b.length:Int) - 1)=((b.length - 1:Nat):Int):=by rw[zq]<;>omega
    have ea:=ha.2 _ (List.getElem_mem h1)
    have eb:=hb.2 _ (List.getElem_mem h2)
    have hc:=zhe a[i] b[i] ⟨ea.hk,ea.hl⟩ ⟨eb.hk,eb.hl⟩
    rw[List.drop_eq_getElem_cons h1,List.drop_eq_getElem_cons h2,zbq] at hw0
    by_cases h0:zw a[i] b[i]=0
    ·rw[if_pos h0] at hw0
     (repeat' (first|(with_reducible first|refine zj (fun _=>?_) (fun _=>?_)|refine zi (fun _=>?_) (fun _=>?_)|refine zl (hc) (by first|rfl|(simp -dsimp [b1,b2,h1,h2,hw,h0];done)) ?_|(refine zx (hc) rfl ?_ ?_ ?_;iterate 2 exact by first|rfl|(simp -dsimp [b1,b2,h1,h2,hw,h0];done))|refine zk zb (by kernel_rfl) ?_|exact za rfl)|(simp -dsimp [b1,b2,h1,h2,hw,h0])));(all_goals try with_reducible refine za ?_)
     refine hK _ (i+1) ?_ ⟨by omega,by omega,hw0⟩ (by omega)
     exact Weak.same (by simp -dsimp) (by simp -dsimp) (by first|rfl|(simp [zg,Av.ids,Ow.ids,Cl.ids,Go.Smd.keys];done))
    ·rw[if_neg h0] at hw0
     have da:(a.drop (i+1)).isEmpty=decide (i=a.length - 1):=zf9 h1
     have db:(b.drop (i+1)).isEmpty=decide (i=b.length - 1):=zf9 h2
     rw[da,db] at hw0
     clear da db hK
     generalize a.length - 1=A1 at hwa hw0
     generalize b.length - 1=B1 at hwb hw0
     (repeat' (first|(with_reducible first|refine zj (fun _=>?_) (fun _=>?_)|refine zi (fun _=>?_) (fun _=>?_)|refine zl (hc) (by first|rfl|(simp -dsimp [b1,b2,h1,h2,hw,h0,hwa,hwb];done)) ?_|(refine zx (hc) rfl ?_ ?_ ?_;iterate 2 exact by first|rfl|(simp -dsimp [b1,b2,h1,h2,hw,h0,hwa,hwb];done))|refine zk zb (by kernel_rfl) ?_|exact za rfl)|(simp -dsimp [b1,b2,h1,h2,hw,h0,hwa,hwb])));(all_goals try with_reducible refine za ?_)
     all_goals
      rw[←hw0]
      clear hw0 hw hc ea eb
      simp only [bne_iff_ne,bne_eq_false_iff_eq,ne_eq,decide_eq_decide,decide_eq_true_eq] at*
      repeat' split
      all_goals first|rfl|(exfalso;omega)
   ·have hend:=zmu (p:=a.drop i) (q:=b.drop i) (.inr (List.drop_of_length_le (by omega)))
    have hci:=Zk (a.length:Int) (b.length:Int)
    have hcc:zA ((a.drop i).length:Int) (b.drop i).length=zA (a.length:Int) b.length:=by
     simp only [List.length_drop,zA];repeat' split<;>omega
    rw[hcc,hw0] at hend
    rw[←hend] at hci
    (repeat' (first|(with_reducible first|refine zj (fun _=>?_) (fun _=>?_)|refine zi (fun _=>?_) (fun _=>?_)|refine zl (hci) (by first|rfl|(simp -dsimp [b1,b2,h1,h2];done)) ?_|(refine zx (hci) rfl ?_ ?_ ?_;iterate 2 exact by first|rfl|(simp -dsimp [b1,b2,h1,h2];done))|refine zk zb (by kernel_rfl) ?_|exact za rfl)|(simp -dsimp [b1,b2,h1,h2])));(all_goals try with_reducible refine za ?_)
  ·have hend:=zmu (p:=a.drop i) (q:=b.drop i) (.inl (List.drop_of_length_le (by omega)))
   have hci:=Zk (a.length:Int) (b.length:Int)
   have hcc:zA ((a.drop i).length:Int) (b.drop i).length=zA (a.length:Int) b.length:=by
    simp only [List.length_drop,zA];repeat' split<;>omega
   rw[hcc,hw0] at hend
   rw[←hend] at hci
   (repeat' (first|(with_reducible first|refine zj (fun _=>?_) (fun _=>?_)|refine zi (fun _=>?_) (fun _=>?_)|refine zl (hci) (by first|rfl|(simp -dsimp [b1,b2,h1];done)) ?_|(refine zx (hci) rfl ?_ ?_ ?_;iterate 2 exact by first|rfl|(simp -dsimp [b1,b2,h1];done))|refine zk zb (by kernel_rfl) ?_|exact za rfl)|(simp -dsimp [b1,b2,h1])));(all_goals try with_reducible refine za ?_)
theorem zwV {P:Program}{T:TypeId}{ox oy:Operand}{n:Nat}(h:n≤9223372036854775807):ZH P .quo T ox oy (.c (.d (.v (.int .i64 n)))) (.c (.d (.v (.int .i64 2))))=some (.c (.d (.v (.int .i64 ((n / 2:Nat):Int))))):=by
 have hw:IntKind.wrap .i64 ((n:Int).tdiv 2)=((n / 2:Nat):Int):=by
  have e:(n:Int).tdiv 2=((n / 2:Nat):Int):=by rw[Int.tdiv_eq_ediv_of_nonneg (by omega)];omega
  rw[e,zq]<;>omega
 have e2:(n:Int).tdiv 2=(n:Int) / 2:=Int.tdiv_eq_ediv_of_nonneg (by omega)
 have hw2:IntKind.wrap .i64 ((n:Int) / 2)=(n:Int) / 2:=by rw[zq]<;>omega
 simp [ZH,zH,eqGuard,binOp,pure,Sem.bind,bind,zn,z7,Z7,Op.intDiv,e2,hw2]
 omega
structure BoundP (W:List (List EV)) (p:List EV) (i:Nat):Prop where
 le:i≤W.length
 lo:∀(j:Nat) (h:j<W.length),j<i→zbq W[j] p<0
 hi:∀(j:Nat) (h:j<W.length),i≤j→0≤zbq W[j] p
theorem ztW (W:List (List EV))(p:List EV)(i:Nat)(fd:Bool)(hl:W.length*24≤140737488351232)(hW:∀w∈W,PthS w)(hp:PthS p)(hB:BoundP W p i)(hf:fd=true↔∃x,W[i]? =some x∧zbq x p=0):
  ACalls prog 94 [.c (.d (zU W)),.c (.d (z9 p))] (fun r=>r= .tup [(false,[.d (dI i)]),(false,[.d (dB fd)])]):=by
 have b1:W.length≤9223372036854775807:=by omega
 refine zf [] func94 (by kernel_rfl) rfl ntmps94 results94 (Nat.le_of_ble_eq_true (by kernel_rfl)) ?_;intro hok w0 S0
 clear hok
 (repeat' (first|(with_reducible first|refine zj (fun _=>?_) (fun _=>?_)|refine zi (fun _=>?_) (fun _=>?_)|refine zk zb (by kernel_rfl) ?_|exact za rfl)|(simp -dsimp [b1])));(all_goals try with_reducible refine za ?_)
 refine zF (fun x:Nat×Nat=>⟨[(0,.c (.d (zU W))),(1,.c (.d (z9 p))),(6,aI x.1),(7,aI x.2)],[]⟩) (fun x=>x.1≤i∧i≤x.2∧x.2≤W.length) (fun x=>x.2 - x.1) (0,W.length) ?_ ⟨Nat.zero_le _,hB.le,Nat.le_refl _⟩ ?_
 ·exact Weak.same (by simp -dsimp) (by simp -dsimp) (by first|rfl|(simp [zg,Av.ids,Ow.ids,Cl.ids,Go.Smd.keys];done))
 ·rintro ⟨lo,hi⟩ ⟨h1,h2,h3⟩ K hK
  dsimp only at h1 h2 h3 ⊢
  by_cases hlt:lo<hi
  ·obtain ⟨m,hm⟩:∃m,m=(hi - lo) / 2:=⟨_,rfl⟩
   obtain ⟨d,hd⟩:∃d,d=hi - lo:=⟨_,rfl⟩
   have hml:lo+m<W.length:=by omega
   have c1:∀{T:TypeId} {ox oy:Operand},ZH prog .quo T ox oy (.c (.d (.v (.int .i64 (d:Int))))) (.c (.d (.v (.int .i64 2))))=some (.c (.d (.v (.int .i64 (m:Int))))):=by
    have e:m=d / 2:=by omega
    intro T ox oy;rw[e];exact zwV (n:=d) (by omega)
   have hw1:IntKind.wrap .i64 ((hi:Int) - lo)=(d:Int):=by rw[zq]<;>omega
   obtain ⟨q,hq⟩:∃q,q=lo+m:=⟨_,rfl⟩
   have hw2:IntKind.wrap .i64 ((lo:Int)+m)=(q:Int):=by rw[zq]<;>omega
   have hw3:IntKind.wrap .i64 ((q:Int)+1)=((q+1:Nat):Int):=by rw[zq]<;>omega
   have hql:q<W.length:=by omega
   have hx:=zfa W[q] p (hW _ (List.getElem_mem hql)) hp
   by_cases hc:zbq W[q] p<0
   ·(repeat' (first|(with_reducible first|refine zj (fun _=>?_) (fun _=>?_)|refine zi (fun _=>?_) (fun _=>?_)|refine zl (hx) (by first|rfl|(simp -dsimp [b1,hlt,c1,hw1,hw2,hw3,hql,hc];done)) ?_|refine zk zb (by kernel_rfl) ?_|exact za rfl)|(simp -dsimp [b1,hlt,c1,hw1,hw2,hw3,hql,hc])));(all_goals try with_reducible refine za ?_)
    refine hK _ (q+1,hi) ?_ ⟨?_,h2,h3⟩ (by dsimp only;omega)
    ·exact Weak.same (by simp -dsimp) (by simp -dsimp) (by first|rfl|(simp [zg,Av.ids,Ow.ids,Cl.ids,Go.Smd.keys];done))
    ·dsimp only
     apply Classical.byContradiction
     intro hn
     have:=hB.hi q hql (by omega);omega
   ·(repeat' (first|(with_reducible first|refine zj (fun _=>?_) (fun _=>?_)|refine zi (fun _=>?_) (fun _=>?_)|refine zl (hx) (by first|rfl|(simp -dsimp [b1,hlt,c1,hw1,hw2,hw3,hql,hc];done)) ?_|refine zk zb (by kernel_rfl) ?_|exact za rfl)|(simp -dsimp [b1,hlt,c1,hw1,hw2,hw3,hql,hc])));(all_goals try with_reducible refine za ?_)
    refine hK _ (lo,q) ?_ ⟨h1,?_,by dsimp only;omega⟩ (by dsimp only;omega)
    ·exact Weak.same (by simp -dsimp) (by simp -dsimp) (by first|rfl|(simp [zg,Av.ids,Ow.ids,Cl.ids,Go.Smd.keys];done))
    ·dsimp only
     apply Classical.byContradiction
     intro hn
     exact hc (hB.lo q hql (by omega))
  ·have e1:lo=i:=by omega
   have e2:hi=i:=by omega
   subst e1;subst e2
   by_cases hpl:hi<W.length
   ·have hx:=zfa W[hi] p (hW _ (List.getElem_mem hpl)) hp
    have hf2:fd=decide (zbq W[hi] p=0):=by
     rw[Bool.eq_iff_iff,hf,decide_eq_true_eq]
     exact ⟨fun ⟨x,h5,h6⟩=>(by rw[List.getElem?_eq_getElem hpl] at h5;cases h5;exact h6),fun h5=>⟨_,List.getElem?_eq_getElem hpl,h5⟩⟩
    by_cases hc:zbq W[hi] p=0
    ·(repeat' (first|(with_reducible first|refine zj (fun _=>?_) (fun _=>?_)|refine zi (fun _=>?_) (fun _=>?_)|refine zl (hx) (by first|rfl|(simp -dsimp [b1,hlt,hpl,hc];done)) ?_|refine zk zb (by kernel_rfl) ?_|exact za rfl)|(simp -dsimp [b1,hlt,hpl,hc])));(all_goals try with_reducible refine za ?_)
     rw[hf2];simp [hc]
    ·(repeat' (first|(with_reducible first|refine zj (fun _=>?_) (fun _=>?_)|refine zi (fun _=>?_) (fun _=>?_)|refine zl (hx) (by first|rfl|(simp -dsimp [b1,hlt,hpl,hc];done)) ?_|refine zk zb (by kernel_rfl) ?_|exact za rfl)|(simp -dsimp [b1,hlt,hpl,hc])));(all_goals try with_reducible refine za ?_)
     rw[hf2];simp [hc]
   ·have hf2:fd=false:=by
     rw[Bool.eq_false_iff]
     intro h5
     obtain ⟨x,h6,_⟩:=hf.1 h5
     have:=(List.getElem?_eq_some_iff.1 h6).1
     omega
    (repeat' (first|(with_reducible first|refine zj (fun _=>?_) (fun _=>?_)|refine zi (fun _=>?_) (fun _=>?_)|refine zk zb (by kernel_rfl) ?_|exact za rfl)|(simp -dsimp [b1,hlt,hpl])));(all_goals try with_reducible refine za ?_)
    rw[hf2]
theorem zmy (p:List EV)(hp:PthS p):ACalls prog 95 [.c (.d (z9 p))] (fun r=>r= .c (.d (z9 (cP p)))):=by
 have hl:=hp.1
 have b1:p.length≤9223372036854775807:=by omega
 have b2:168*p.length≤281474976710656:=by omega
 refine zf [] func95 (by kernel_rfl) rfl ntmps95 results95 (Nat.le_of_ble_eq_true (by kernel_rfl)) ?_;intro hok w0 S0
 clear hok
 (repeat' (first|(with_reducible first|refine zj (fun _=>?_) (fun _=>?_)|refine zi (fun _=>?_) (fun _=>?_)|refine zk zb (by kernel_rfl) ?_|exact za rfl)|(simp -dsimp [b1,b2])));(all_goals try with_reducible refine za ?_)
 refine zF (fun i:Nat=>⟨[(3,.c (.gs 8 i)),(9,.c (.d (z9 p))),(10,aI p.length),(11,aI i)],[(8,.arr i 29 ((p.map (evD∘CE)).take i))]⟩) (fun i=>i≤p.length) (fun i=>p.length - i) 0 ?_ (Nat.zero_le _) ?_
 ·exact Weak.same (by simp -dsimp) (by simp -dsimp) (by first|rfl|(simp [zg,Av.ids,Ow.ids,Cl.ids,Go.Smd.keys];done))
 ·rintro i hi K hK
  by_cases hlt:i<p.length
  ·have hw:IntKind.wrap .i64 ((i:Int)+1)=((i+1:Nat):Int):=by rw[zq]<;>omega
   have he:=hp.2 _ (List.getElem_mem hlt)
   obtain ⟨R,hR⟩:∃R,R=(p.map (evD∘CE)).take i:=⟨_,rfl⟩
   have hRl:R.length=i:=by rw[hR];simp;omega
   have hb:(i+1)*168≤140737488351232:=by omega
   have h1:(p.map (evD∘CE)).take (i+1)=R++ [evD (CE p[i])]:=by
    rw[hR,List.take_succ_eq_append_getElem (by simpa using hlt)];simp
   have hc:=zg5 p[i] he.hk he.hl
   obtain ⟨k,s,keys,l,a,b,c,d,e,f,n,hE⟩:∃k s keys l a b c d e f n,p[i]=⟨k,s,keys,l,.mk a b c d e f,n⟩:=by
    obtain ⟨k,s,keys,l,⟨a,b,c,d,e,f⟩,n⟩:=p[i]
    exact ⟨_,_,_,_,_,_,_,_,_,_,_,rfl⟩
   obtain ⟨k',s',keys',l',a',b',c',d',e',f',n',hE'⟩:∃k s keys l a b c d e f n,CE p[i]=⟨k,s,keys,l,.mk a b c d e f,n⟩:=by
    obtain ⟨k,s,keys,l,⟨a,b,c,d,e,f⟩,n⟩:=CE p[i]
    exact ⟨_,_,_,_,_,_,_,_,_,_,_,rfl⟩
   have hD:evD p[i]= [dI k,dS s,ZS keys,zaD l,dI a,dI b,dF c,dS d,ZS e,zaD f,dI n]:=by rw[hE,zus]
   rw[hE'] at hc
   rw[hE,zdE,zdE] at hc
   rw[hE',zus] at h1
   rw[←hR]
   (repeat' (first|(with_reducible first|refine zj (fun _=>?_) (fun _=>?_)|refine zi (fun _=>?_) (fun _=>?_)|refine zl (hc) (by first|rfl|(simp -dsimp [b1,hlt,hw,hb,zc,hRl,hD];done)) ?_|refine zk zb (by kernel_rfl) ?_|exact za rfl)|(simp -dsimp [b1,hlt,hw,hb,zc,hRl,hD])));(all_goals try with_reducible refine za ?_)
   refine hK _ (i+1) ?_ (by omega) (by omega)
   rw[h1]
   exact Weak.same (by simp -dsimp) (by simp -dsimp) (by first|rfl|(simp [zg,Av.ids,Ow.ids,Cl.ids,Go.Smd.keys];done))
  ·have hi2:i=p.length:=by omega
   subst hi2
   rw[List.take_of_length_le (by simp)]
   (repeat' (first|(with_reducible first|refine zj (fun _=>?_) (fun _=>?_)|refine zi (fun _=>?_) (fun _=>?_)|refine zk zb (by kernel_rfl) ?_|exact za rfl)|(simp -dsimp [b1])));(all_goals try with_reducible refine za ?_)
   simp only [z9,List.map_map]
end Go.Smd
end
