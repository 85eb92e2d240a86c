/- Part 31. -/
import Derived.Test.YtdgnolbdcmgfoaaGreatQD20
set_option linter.unusedVariables false
set_option linter.unusedSimpArgs false
set_option maxRecDepth 100000
set_option maxHeartbeats 8000000
section
namespace Go.Smd
open Go.RowKit Go.Proofs Go.Proofs.Tryz
theorem zkb {m:List (ByteArray×Tree)}{ss:List ByteArray}(hs:ss.Pairwise fun a b=>blt a b=true)(hp:ss.Perm (m.map (·.1))):(fromMs m).map (·.1)=ss:=
 zgv (zaf m) hs fun q=>by rw[zby,hp.mem_iff]
def kd:GV→Int
 | .mk k _ _ _ _ _=>k
def oSl (E:TypeId):List (List D)→D
 | []=>.v (.slice none 0 0)
 |x::xs=>.sl E (x::xs)
theorem ACalls.imp {P:Program}{f:FuncId}{args:List Av}{R R':Av→Prop}(h:ACalls P f args R)(k:∀r,R r→∃r',AvLe P r r'∧R' r'):ACalls P f args R':=
 ⟨h.1,fun w S vs hS ha=>(h.2 w S vs hS ha).mono fun _ _ ⟨v,r,h1,h2,h3,h4⟩=>let ⟨r',le,h'⟩:=k r h2;⟨v,r',h1,h',le _ _ _ _ _ h3,h4⟩⟩
theorem AvLe.oSl {P:Program}(E:TypeId)(xs:List (List D)):AvLe P (.c (.d (oSl E xs))) (.c (.d (.sl E xs))):=by
 cases xs with
 |nil=>exact AvLe.nil E
 |cons x xs=>exact AvLe.refl _
theorem zlf (m:List (ByteArray×Tree))(hnd:(m.map (·.1)).Nodup)(hl:m.length≤4000000000000):ACalls prog 185 [.c (.d (.mp m))] (fun r=>r= .c (.d (oSl zeC (zd7 ((fromMs m).map (·.1)))))):=by
 refine zf [(7,([],[(0,[]),(1,[]),(2,[]),(3,[]),(4,[]),(5,[]),(6,[]),(7,[]),(8,[]),(9,[]),(10,[]),(11,[]),(12,[]),(13,[])])),(9,([],[(0,[]),(1,[]),(2,[]),(3,[]),(4,[]),(5,[]),(6,[]),(7,[]),(8,[]),(9,[]),(10,[]),(11,[]),(12,[]),(13,[]),(14,[]),(15,[]),(16,[]),(17,[])]))] func185 (by kernel_rfl) rfl ntmps185 results185 (Nat.le_of_ble_eq_true (by kernel_rfl)) ?_;intro hok w0 S0
 clear hok
 (repeat' (first|(with_reducible first|refine zj (fun _=>?_) (fun _=>?_)|refine zi (fun _=>?_) (fun _=>?_))|((with_reducible apply zcq);(case hx=>simp -dsimp [hnd];first|done|with_reducible rfl);(case hid=>simp -dsimp [hnd];first|done|with_reducible rfl|exact ⟨rfl,rfl,rfl⟩|exact ⟨rfl,rfl⟩);(case' h1=>intro _ _ _);(case' h0=>intro _))|((with_reducible apply zbL);(case hx=>simp -dsimp [hnd];first|done|with_reducible rfl);(case hid=>simp -dsimp [hnd];first|done|with_reducible rfl|exact ⟨rfl,rfl,rfl⟩|exact ⟨rfl,rfl⟩))|((with_reducible apply zbK);(case hx=>simp -dsimp [hnd];with_reducible rfl);(case hT=>simp -dsimp [hnd]);(case hnd=>assumption);(case hz=>simp -dsimp [hnd]))|(with_reducible first|refine zk zb (by kernel_rfl) ?_|exact za rfl)|(simp -dsimp [hnd])));(all_goals try with_reducible refine za ?_)
 refine zF (fun x:List ByteArray×List ByteArray×Option ByteArray=>match x.2.1 with
   | []=>⟨[(3,.c (.d (.v (.slice none 0 0)))),(7,.c (.fn 7))],[(7,.clo (.it m x.1 x.2.2) [])]⟩
   |s::ss=>⟨[(3,.c (.gs 15 (ss.length+1))),(7,.c (.fn 7))],[(15,.arr (ss.length+1) zeC (zd7 (s::ss))),(7,.clo (.it m x.1 x.2.2) [])]⟩)
  (fun x=>x.1.Nodup∧x.2.1.Pairwise (fun a b=>blt a b=true)∧(x.2.1++x.1).Perm (m.map (·.1))) (fun x=>x.1.length) (m.map (·.1),[],none) ?_ ⟨hnd,.nil,List.Perm.refl _⟩ ?_
 ·exact Weak.same (by simp -dsimp) (by simp -dsimp) (by first|rfl|(simp [zg,Av.ids,Ow.ids,Cl.ids,Go.Smd.keys];done))
 ·rintro ⟨left,ss,cur⟩ ⟨hnl,hso,hpm⟩ K hK
  dsimp only at hnl hso hpm hK ⊢
  have hlen:=hpm.length_eq
  simp only [List.length_append,List.length_map] at hlen
  cases ss with
  |nil=>
   dsimp only
   (repeat' (first|(with_reducible first|refine zj (fun _=>?_) (fun _=>?_)|refine zi (fun _=>?_) (fun _=>?_))|((with_reducible apply zcq);(case hx=>simp -dsimp [hnd,zc];first|done|with_reducible rfl);(case hid=>simp -dsimp [hnd,zc];first|done|with_reducible rfl|exact ⟨rfl,rfl,rfl⟩|exact ⟨rfl,rfl⟩);(case' h1=>intro _ _ _);(case' h0=>intro _))|((with_reducible apply zbL);(case hx=>simp -dsimp [hnd,zc];first|done|with_reducible rfl);(case hid=>simp -dsimp [hnd,zc];first|done|with_reducible rfl|exact ⟨rfl,rfl,rfl⟩|exact ⟨rfl,rfl⟩))|((with_reducible apply zbK);(case hx=>simp -dsimp [hnd,zc];with_reducible rfl);(case hT=>simp -dsimp [hnd,zc]);(case hnd=>assumption);(case hz=>simp -dsimp [hnd,zc]))|(with_reducible first|refine zk zb (by kernel_rfl) ?_|exact za rfl)|(simp -dsimp [hnd,zc])));(all_goals try with_reducible refine za ?_)
   ·have e:left= []:=by assumption
    subst e
    rw[zkb hso (by simpa using hpm)]
    rfl
   ·rename_i k hk hs
    have hp:=zcV hnl hk
    have hp2:=hp.length_eq
    simp only [List.length_cons] at hp2
    refine zF (fun _:Unit=>⟨[(3,.c (.gs 15 1)),(5,aI 0),(7,.c (.fn 7))],[(15,.arr 1 zeC (zd7 [k])),(7,.clo (.it m (left.filter fun x=>decide (x≠k)) (some k)) [])]⟩) (fun _=>True) (fun _=>0) () ?_ trivial ?_
    ·have hw:IntKind.wrap .i64 0=0:=by rw[zq]<;>omega
     exact Weak.same (by simp -dsimp [hw]) (by simp -dsimp [hw]) (by first|rfl|(simp [zg,Av.ids,Ow.ids,Cl.ids,Go.Smd.keys];done))
    ·rintro _ _ K2 hK2
     (repeat' (first|(with_reducible first|refine zj (fun _=>?_) (fun _=>?_)|refine zi (fun _=>?_) (fun _=>?_))|((with_reducible apply zcq);(case hx=>simp -dsimp;first|done|with_reducible rfl);(case hid=>simp -dsimp;first|done|with_reducible rfl|exact ⟨rfl,rfl,rfl⟩|exact ⟨rfl,rfl⟩);(case' h1=>intro _ _ _);(case' h0=>intro _))|((with_reducible apply zbL);(case hx=>simp -dsimp;first|done|with_reducible rfl);(case hid=>simp -dsimp;first|done|with_reducible rfl|exact ⟨rfl,rfl,rfl⟩|exact ⟨rfl,rfl⟩))|((with_reducible apply zbK);(case hx=>simp -dsimp;with_reducible rfl);(case hT=>simp -dsimp);(case hnd=>assumption);(case hz=>simp -dsimp))|(with_reducible first|refine zk zb (by kernel_rfl) ?_|exact za rfl)|(simp -dsimp)));(all_goals try with_reducible refine za ?_)
     refine hK _ (left.filter fun x=>decide (x≠k),[k],some k) ?_ ⟨hnl.filter _,List.pairwise_singleton ..,?_⟩ (by dsimp only;omega)
     ·exact Weak.same (by simp -dsimp) (by simp -dsimp) (by first|rfl|(simp [zg,Av.ids,Ow.ids,Cl.ids,Go.Smd.keys];done))
     ·exact List.Perm.trans hp.symm hpm
  |cons s ss=>
   dsimp only
   simp only [List.length_cons] at hlen
   have hb:(ss.length+1+1)*16≤140737488351232:=by omega
   have hw0:IntKind.wrap .i64 ((ss.length:Int)+1+1 - 1)=((ss.length+1:Nat):Int):=by rw[zq]<;>omega
   have hw1:IntKind.wrap .i64 (((ss.length+1+1:Nat):Int) - 1)=((ss.length+1:Nat):Int):=by rw[zq]<;>omega
   have hl9:ss.length+1+1≤9223372036854775807:=by omega
   (repeat' (first|(with_reducible first|refine zj (fun _=>?_) (fun _=>?_)|refine zi (fun _=>?_) (fun _=>?_))|((with_reducible apply zcq);(case hx=>simp -dsimp [hnd,zc,hb,hw0,hw1,hl9];first|done|with_reducible rfl);(case hid=>simp -dsimp [hnd,zc,hb,hw0,hw1,hl9];first|done|with_reducible rfl|exact ⟨rfl,rfl,rfl⟩|exact ⟨rfl,rfl⟩);(case' h1=>intro _ _ _);(case' h0=>intro _))|((with_reducible apply zbL);(case hx=>simp -dsimp [hnd,zc,hb,hw0,hw1,hl9];first|done|with_reducible rfl);(case hid=>simp -dsimp [hnd,zc,hb,hw0,hw1,hl9];first|done|with_reducible rfl|exact ⟨rfl,rfl,rfl⟩|exact ⟨rfl,rfl⟩))|((with_reducible apply zbK);(case hx=>simp -dsimp [hnd,zc,hb,hw0,hw1,hl9];with_reducible rfl);(case hT=>simp -dsimp [hnd,zc,hb,hw0,hw1,hl9]);(case hnd=>assumption);(case hz=>simp -dsimp [hnd,zc,hb,hw0,hw1,hl9]))|(with_reducible first|refine zk zb (by kernel_rfl) ?_|exact za rfl)|(simp -dsimp [hnd,zc,hb,hw0,hw1,hl9])));(all_goals try with_reducible refine za ?_)
   ·have e:left= []:=by assumption
    subst e
    rw[zkb hso (by simpa using hpm)]
    rfl
   ·rename_i k hk hs
    have hp:=zcV hnl hk
    have hp2:=hp.length_eq
    simp only [List.length_cons] at hp2
    obtain ⟨T,hT⟩:∃T,T=s::ss:=⟨_,rfl⟩
    have hTl:T.length=ss.length+1:=by rw[hT];rfl
    have hTnd:(T++left).Nodup:=by rw[hT];exact hpm.nodup_iff.2 hnd
    have hkT:¬k∈T:=fun h=>(List.nodup_append.1 hTnd).2.2 k h k hk rfl
    rw[←hT] at hso hpm
    refine zF (fun j:Nat=>⟨[(3,.c (.gs 15 (ss.length+1+1))),(5,aI j),(7,.c (.fn 7))],[(15,.arr (ss.length+1+1) zeC (zd7 (zak k T j))),(7,.clo (.it m (left.filter fun x=>decide (x≠k)) (some k)) [])]⟩)
     (fun j=>j≤T.length∧∀q∈T.drop j,blt k q=true) (fun j=>j) T.length ?_ ⟨Nat.le_refl _,by simp⟩ ?_
    ·have hw:IntKind.wrap .i64 ((ss.length:Int)+1)=(ss.length:Int)+1:=by rw[zq]<;>omega
     rw[zjL,hTl,hT]
     exact Weak.same (by simp -dsimp [hw]) (by simp -dsimp [hw]) (by first|rfl|(simp [zg,Av.ids,Ow.ids,Cl.ids,Go.Smd.keys];done))
    ·rintro j ⟨hj,hall⟩ K2 hK2
     have hleft:∀R:List ByteArray,R=zak k T j→(R++left.filter fun x=>decide (x≠k)).Perm (m.map (·.1)):=fun R e=>by
      subst e
      refine List.Perm.trans (zfq k T _ j) ?_
      exact List.Perm.trans (List.Perm.append_left T hp.symm) hpm
     have hpl:=zad k T j
     obtain ⟨a,b,hab⟩:∃a b,zak k T j=a::b:=by
      cases h:zak k T j with
      |nil=>rw[h] at hpl;simp at hpl
      |cons a b=>exact ⟨a,b,rfl⟩
     have hbl:b.length+1=ss.length+1+1:=by rw[hab] at hpl;simp only [List.length_cons] at hpl;omega
     cases j with
     |zero=>
      (repeat' (first|(with_reducible first|refine zj (fun _=>?_) (fun _=>?_)|refine zi (fun _=>?_) (fun _=>?_))|((with_reducible apply zcq);(case hx=>simp -dsimp;first|done|with_reducible rfl);(case hid=>simp -dsimp;first|done|with_reducible rfl|exact ⟨rfl,rfl,rfl⟩|exact ⟨rfl,rfl⟩);(case' h1=>intro _ _ _);(case' h0=>intro _))|((with_reducible apply zbL);(case hx=>simp -dsimp;first|done|with_reducible rfl);(case hid=>simp -dsimp;first|done|with_reducible rfl|exact ⟨rfl,rfl,rfl⟩|exact ⟨rfl,rfl⟩))|((with_reducible apply zbK);(case hx=>simp -dsimp;with_reducible rfl);(case hT=>simp -dsimp);(case hnd=>assumption);(case hz=>simp -dsimp))|(with_reducible first|refine zk zb (by kernel_rfl) ?_|exact za rfl)|(simp -dsimp)));(all_goals try with_reducible refine za ?_)
      refine hK _ (left.filter fun x=>decide (x≠k),a::b,some k) ?_ ⟨hnl.filter _,?_,hleft _ hab.symm⟩ (by dsimp only;omega)
      ·dsimp only
       simp only [hbl,←hab]
       exact Weak.same (by simp -dsimp) (by simp -dsimp) (by first|rfl|(simp [zg,Av.ids,Ow.ids,Cl.ids,Go.Smd.keys];done))
      ·dsimp only;rw[←hab];exact zcR hso (by simp) hall
     |succ p=>
      obtain ⟨s2,hs2⟩:∃s,T[p]? =some s:=⟨T[p],List.getElem?_eq_getElem (by omega)⟩
      obtain ⟨R2,hR2⟩:∃R2,R2=zak k T (p+1)++ []:=⟨_,rfl⟩
      have hR3:zak k T (p+1)=R2:=by rw[hR2,List.append_nil]
      have hR2l:R2.length=ss.length+1+1:=by rw[←hR3];omega
      have g1:R2[p+1]? =some k:=by rw[←hR3];exact zif k hj
      have g2:R2[p]? =some s2:=by rw[←hR3];exact zig k hs2
      have hb1:p+1<R2.length:=by omega
      have hb2:p<R2.length:=by omega
      have hw:IntKind.wrap .i64 (p:Int)=(p:Int):=by rw[zq]<;>omega
      have g1':R2[p+1]=k:=by rw[List.getElem?_eq_getElem hb1] at g1;exact Option.some.inj g1
      have g2':R2[p]=s2:=by rw[List.getElem?_eq_getElem hb2] at g2;exact Option.some.inj g2
      have ht1:((p:Int)+1).toNat=p+1:=by omega
      have hp0:(0:Int)<(p:Int)+1:=by omega
      have hp1:(0:Int)≤(p:Int)+1:=by omega
      have hl92:R2.length≤9223372036854775807:=by omega
      simp only [hR3]
      (repeat' (first|(with_reducible first|refine zj (fun _=>?_) (fun _=>?_)|refine zi (fun _=>?_) (fun _=>?_))|((with_reducible apply zcq);(case hx=>simp -dsimp [hw,ht1,hp0,hp1,hb1,hb2,g1',g2',hl92,zc];first|done|with_reducible rfl);(case hid=>simp -dsimp [hw,ht1,hp0,hp1,hb1,hb2,g1',g2',hl92,zc];first|done|with_reducible rfl|exact ⟨rfl,rfl,rfl⟩|exact ⟨rfl,rfl⟩);(case' h1=>intro _ _ _);(case' h0=>intro _))|((with_reducible apply zbL);(case hx=>simp -dsimp [hw,ht1,hp0,hp1,hb1,hb2,g1',g2',hl92,zc];first|done|with_reducible rfl);(case hid=>simp -dsimp [hw,ht1,hp0,hp1,hb1,hb2,g1',g2',hl92,zc];first|done|with_reducible rfl|exact ⟨rfl,rfl,rfl⟩|exact ⟨rfl,rfl⟩))|((with_reducible apply zbK);(case hx=>simp -dsimp [hw,ht1,hp0,hp1,hb1,hb2,g1',g2',hl92,zc];with_reducible rfl);(case hT=>simp -dsimp [hw,ht1,hp0,hp1,hb1,hb2,g1',g2',hl92,zc]);(case hnd=>assumption);(case hz=>simp -dsimp [hw,ht1,hp0,hp1,hb1,hb2,g1',g2',hl92,zc]))|(with_reducible first|refine zk zb (by kernel_rfl) ?_|exact za rfl)|(simp -dsimp [hw,ht1,hp0,hp1,hb1,hb2,g1',g2',hl92,zc])));(all_goals try with_reducible refine za ?_)
      ·rename_i hks
       refine hK2 _ p ?_ ⟨by omega,fun q hq=>?_⟩ (by omega)
       ·have hsw:=zma hR2 hs2
        rw[List.append_nil] at hsw
        simp only [←hsw]
        exact Weak.same (by simp -dsimp) (by simp -dsimp) (by first|rfl|(simp [zg,Av.ids,Ow.ids,Cl.ids,Go.Smd.keys];done))
       ·rw[List.drop_eq_getElem_cons (show p<T.length by omega)] at hq
        rcases List.mem_cons.1 hq with rfl|hq
        ·rw[List.getElem?_eq_getElem (show p<T.length by omega)] at hs2
         cases hs2;exact hks
        ·exact hall q hq
      ·rename_i hks
       have hsk:blt s2 k=true:=by
        rcases zeX k s2 with h|h|h
        ·rw[h] at hks;cases hks
        ·subst h;exact absurd (List.mem_of_getElem? hs2) hkT
        ·exact h
       refine hK _ (left.filter fun x=>decide (x≠k),a::b,some k) ?_ ⟨hnl.filter _,?_,hleft _ hab.symm⟩ (by dsimp only;omega)
       ·dsimp only
        simp only [hbl,←hab,hR3]
        exact Weak.same (by simp -dsimp) (by simp -dsimp) (by first|rfl|(simp [zg,Av.ids,Ow.ids,Cl.ids,Go.Smd.keys];done))
       ·dsimp only;rw[←hab];exact zcR hso (zih hso hs2 hsk) hall
theorem zlg (m:List (ByteArray×Tree))(hnd:(m.map (·.1)).Nodup)(hl:m.length≤4000000000000):ACalls prog 185 [.c (.d (.mp m))] (fun r=>r= .c (.d (ZS ((fromMs m).map (·.1))))):=
 (zlf m hnd hl).imp fun r hr=>by subst hr;exact ⟨_,AvLe.oSl _ _,rfl⟩
theorem w1:IntKind.wrap .i64 1=1:=by rw[zq]<;>omega
theorem zur (l:List Tree)(i:Nat)(h:i<l.length):((l.map fun t=>gvD (Zs t)).take (i+1))=((l.map fun t=>gvD (Zs t)).take i)++ [gvD (Zs l[i])]:=by
 rw[List.take_succ_eq_append_getElem (by simpa using h)]
 simp
theorem znI (t:Tree):zaM t→ACalls prog 131 [.c (.d (.tr t))] (fun r=>r=gvA (Zs t)):=by
 induction t using Tree.ind with
 |hn=>
  intro _
  refine zf [(22,([],[(0,[]),(1,[]),(2,[]),(3,[]),(4,[]),(5,[]),(6,[]),(7,[])])),(32,([],[(0,[]),(1,[]),(2,[]),(3,[]),(4,[]),(5,[]),(6,[]),(7,[]),(8,[]),(9,[])]))] func131 (by kernel_rfl) rfl ntmps131 results131 (Nat.le_of_ble_eq_true (by kernel_rfl)) ?_;intro hok w0 S0
  clear hok
  (repeat' (first|(with_reducible first|refine zj (fun _=>?_) (fun _=>?_)|refine zi (fun _=>?_) (fun _=>?_)|refine zk zb (by kernel_rfl) ?_|exact za rfl)|(simp -dsimp [Zs,zbx])));(all_goals try with_reducible refine za ?_)
 |hb b=>
  intro _
  refine zf [(22,([],[(0,[]),(1,[]),(2,[]),(3,[]),(4,[]),(5,[]),(6,[]),(7,[])])),(32,([],[(0,[]),(1,[]),(2,[]),(3,[]),(4,[]),(5,[]),(6,[]),(7,[]),(8,[]),(9,[])]))] func131 (by kernel_rfl) rfl ntmps131 results131 (Nat.le_of_ble_eq_true (by kernel_rfl)) ?_;intro hok w0 S0
  clear hok
  cases b<;>(repeat' (first|(with_reducible first|refine zj (fun _=>?_) (fun _=>?_)|refine zi (fun _=>?_) (fun _=>?_)|refine zk zb (by kernel_rfl) ?_|exact za rfl)|(simp -dsimp [Zs,zbx])));(all_goals try with_reducible refine za ?_)
 |hi n=>
  intro _
  refine zf [(22,([],[(0,[]),(1,[]),(2,[]),(3,[]),(4,[]),(5,[]),(6,[]),(7,[])])),(32,([],[(0,[]),(1,[]),(2,[]),(3,[]),(4,[]),(5,[]),(6,[]),(7,[]),(8,[]),(9,[])]))] func131 (by kernel_rfl) rfl ntmps131 results131 (Nat.le_of_ble_eq_true (by kernel_rfl)) ?_;intro hok w0 S0
  clear hok
  (repeat' (first|(with_reducible first|refine zj (fun _=>?_) (fun _=>?_)|refine zi (fun _=>?_) (fun _=>?_)|refine zk zb (by kernel_rfl) ?_|exact za rfl)|(simp -dsimp [Zs,zbx])));(all_goals try with_reducible refine za ?_)
 |hf f=>
  intro _
  refine zf [(22,([],[(0,[]),(1,[]),(2,[]),(3,[]),(4,[]),(5,[]),(6,[]),(7,[])])),(32,([],[(0,[]),(1,[]),(2,[]),(3,[]),(4,[]),(5,[]),(6,[]),(7,[]),(8,[]),(9,[])]))] func131 (by kernel_rfl) rfl ntmps131 results131 (Nat.le_of_ble_eq_true (by kernel_rfl)) ?_;intro hok w0 S0
  clear hok
  (repeat' (first|(with_reducible first|refine zj (fun _=>?_) (fun _=>?_)|refine zi (fun _=>?_) (fun _=>?_)|refine zk zb (by kernel_rfl) ?_|exact za rfl)|(simp -dsimp [Zs,zbx])));(all_goals try with_reducible refine za ?_)
 |hs s=>
  intro _
  refine zf [(22,([],[(0,[]),(1,[]),(2,[]),(3,[]),(4,[]),(5,[]),(6,[]),(7,[])])),(32,([],[(0,[]),(1,[]),(2,[]),(3,[]),(4,[]),(5,[]),(6,[]),(7,[]),(8,[]),(9,[])]))] func131 (by kernel_rfl) rfl ntmps131 results131 (Nat.le_of_ble_eq_true (by kernel_rfl)) ?_;intro hok w0 S0
  clear hok
  (repeat' (first|(with_reducible first|refine zj (fun _=>?_) (fun _=>?_)|refine zi (fun _=>?_) (fun _=>?_)|refine zk zb (by kernel_rfl) ?_|exact za rfl)|(simp -dsimp [Zs,zbx])));(all_goals try with_reducible refine za ?_)
 |hl l IH=>
  intro hF
  simp only [zaM] at hF
  have hF1:=hF.1
  have hF2:=hF.2
  refine zf [(22,([],[(0,[]),(1,[]),(2,[]),(3,[]),(4,[]),(5,[]),(6,[]),(7,[])])),(32,([],[(0,[]),(1,[]),(2,[]),(3,[]),(4,[]),(5,[]),(6,[]),(7,[]),(8,[]),(9,[])]))] func131 (by kernel_rfl) rfl ntmps131 results131 (Nat.le_of_ble_eq_true (by kernel_rfl)) ?_;intro hok w0 S0
  clear hok
  have b1:l.length≤9223372036854775807:=by omega
  have hr:gvA (Zs (.list l))= .agg [.d (dI 5),.d (dI 0),.d (dF 0),.d (dS ⟨#[]⟩),.d (ZS []),.d (.sl 27 (l.map fun t=>gvD (Zs t)))]:=by
   simp only [Zs,gvA,zbx,zcC,zfQ,zgx,zaD,List.map_map];rfl
  rw[hr]
  (repeat' (first|(with_reducible first|refine zj (fun _=>?_) (fun _=>?_)|refine zi (fun _=>?_) (fun _=>?_)|refine zk zb (by kernel_rfl) ?_|exact za rfl)|(simp -dsimp [b1])));(all_goals try with_reducible refine za ?_)
  refine zF (fun i:Nat=>match i with
   |0=>⟨[(2,.c (.own 2 0)),(8,.c (.own 8 0)),(41,.c (.d (zvq l))),(42,aI l.length),(43,aI 0)],[(2,.cells [.d (dI 0),.d (dI 0),.d (dF 0),.d (dS ⟨#[]⟩),.d (.v (.slice none 0 0)),.d (.v (.slice none 0 0))] 27),(8,.cells [.d (dI 5),.d (dI 0),.d (dF 0),.d (dS ⟨#[]⟩),.d (.v (.slice none 0 0)),.d (.v (.slice none 0 0))] 27)]⟩
   |i+1=>⟨[(2,.c (.own 2 0)),(8,.c (.own 8 0)),(41,.c (.d (zvq l))),(42,aI l.length),(43,aI ((i+1:Nat):Int))],[(52,.arr (i+1) 27 ((l.map fun t=>gvD (Zs t)).take (i+1))),(2,.cells [.d (dI 0),.d (dI 0),.d (dF 0),.d (dS ⟨#[]⟩),.d (.v (.slice none 0 0)),.d (.v (.slice none 0 0))] 27),(8,.cells [.d (dI 5),.d (dI 0),.d (dF 0),.d (dS ⟨#[]⟩),.d (.v (.slice none 0 0)),.gs 52 (i+1)] 27)]⟩)
   (fun i=>i≤l.length) (fun i=>l.length - i) 0 ?_ (Nat.zero_le _) ?_
  ·exact Weak.same (by simp -dsimp) (by simp -dsimp) (by first|rfl|(simp [zg,Av.ids,Ow.ids,Cl.ids,Go.Smd.keys];done))
  ·rintro i hi K hK
   cases i with
   |zero=>
    dsimp only
    by_cases hlt:0<l.length
    ·have IH0:=IH l[0] (List.getElem_mem hlt) (hF2.mem _ (List.getElem_mem hlt))
     (repeat' (first|(with_reducible first|refine zj (fun _=>?_) (fun _=>?_)|refine zi (fun _=>?_) (fun _=>?_)|refine zl (IH0) (by first|rfl|(simp -dsimp [hlt,zc];done)) ?_|(refine zx (IH0) rfl ?_ ?_ ?_;iterate 2 exact by first|rfl|(simp -dsimp [hlt,zc];done))|refine zk zb (by kernel_rfl) ?_|exact za rfl)|(simp -dsimp [hlt,zc])));(all_goals try with_reducible refine za ?_)
     refine hK _ 1 ?_ (by omega) (by omega)
     have e1:=zur l 0 hlt
     simp only [Nat.zero_add,List.take_zero,List.nil_append] at e1
     dsimp only
     simp only [Nat.zero_add,e1]
     exact Weak.same (by simp -dsimp [w1]) (by simp -dsimp [w1]) (by first|rfl|(simp [zg,Av.ids,Ow.ids,Cl.ids,Go.Smd.keys];done))
    ·have e:l= []:=List.eq_nil_of_length_eq_zero (by omega)
     subst e
     (repeat' (first|(with_reducible first|refine zj (fun _=>?_) (fun _=>?_)|refine zi (fun _=>?_) (fun _=>?_)|refine zk zb (by kernel_rfl) ?_|exact za rfl)|(simp -dsimp)));(all_goals try with_reducible refine za ?_)
   |succ i=>
    dsimp only
    have hrl:((l.map fun t=>gvD (Zs t)).take (i+1)).length=i+1:=by simp;omega
    obtain ⟨R,hR⟩:∃R,R=(l.map fun t=>gvD (Zs t)).take (i+1):=⟨_,rfl⟩
    rw[←hR] at hrl ⊢
    by_cases hlt:i+1<l.length
    ·have IH0:=IH l[i+1] (List.getElem_mem hlt) (hF2.mem _ (List.getElem_mem hlt))
     have hw:IntKind.wrap .i64 (((i+1:Nat):Int)+1)=((i+1+1:Nat):Int):=by rw[zq]<;>omega
     have hw2:IntKind.wrap .i64 ((i:Int)+1+1)=((i+1+1:Nat):Int):=by rw[zq]<;>omega
     have hb:(i+1+1)*88≤140737488351232:=by omega
     have h1:(i:Int)+1<l.length:=by omega
     have h2:(0:Int)≤(i:Int)+1:=by omega
     have h3:((i:Int)+1).toNat=i+1:=by omega
     (repeat' (first|(with_reducible first|refine zj (fun _=>?_) (fun _=>?_)|refine zi (fun _=>?_) (fun _=>?_)|refine zl (IH0) (by first|rfl|(simp -dsimp [hlt,hrl,hw,hw2,hb,h1,h2,h3,zc];done)) ?_|(refine zx (IH0) rfl ?_ ?_ ?_;iterate 2 exact by first|rfl|(simp -dsimp [hlt,hrl,hw,hw2,hb,h1,h2,h3,zc];done))|refine zk zb (by kernel_rfl) ?_|exact za rfl)|(simp -dsimp [hlt,hrl,hw,hw2,hb,h1,h2,h3,zc])));(all_goals try with_reducible refine za ?_)
     refine hK _ (i+1+1) ?_ (by omega) (by omega)
     have e1:=zur l (i+1) hlt
     rw[←hR] at e1
     dsimp only
     simp only [e1]
     exact Weak.same (by simp -dsimp) (by simp -dsimp) (by first|rfl|(simp [zg,Av.ids,Ow.ids,Cl.ids,Go.Smd.keys];done))
    ·have h1:¬(i:Int)+1<l.length:=by omega
     have e:R=l.map fun t=>gvD (Zs t):=by rw[hR,List.take_of_length_le (by simp;omega)]
     (repeat' (first|(with_reducible first|refine zj (fun _=>?_) (fun _=>?_)|refine zi (fun _=>?_) (fun _=>?_)|refine zk zb (by kernel_rfl) ?_|exact za rfl)|(simp -dsimp [h1])));(all_goals try with_reducible refine za ?_)
     rw[e];rfl
 |hm m IH=>
  intro hF
  simp only [zaM] at hF
  obtain ⟨hF1,hnd,hF2⟩:=hF
  refine zf [(22,([],[(0,[]),(1,[]),(2,[]),(3,[]),(4,[]),(5,[]),(6,[]),(7,[])])),(32,([],[(0,[]),(1,[]),(2,[]),(3,[]),(4,[]),(5,[]),(6,[]),(7,[]),(8,[]),(9,[])]))] func131 (by kernel_rfl) rfl ntmps131 results131 (Nat.le_of_ble_eq_true (by kernel_rfl)) ?_;intro hok w0 S0
  clear hok
  obtain ⟨fs,hfs⟩:∃fs,fs=fromMs m:=⟨_,rfl⟩
  have hfl:fs.length=m.length:=by
   have:=zim (zfW (zaf m)) hnd fun q=>zby q m
   rw[List.length_map,List.length_map] at this
   rw[hfs];exact this
  have hcell:∀(i:Nat) (h:i<fs.length),∃t,zai m fs[i].1=some t∧fs[i].2=Zs t∧zaM t∧ACalls prog 131 [.c (.d (.tr t))] (fun r=>r=gvA (Zs t)):=fun i h=>by
   have hm:(fs[i].1,fs[i].2)∈fromMs m:=hfs▸List.getElem_mem h
   obtain ⟨t,ht,e⟩:=zfs hm
   exact ⟨t,zeD hnd ht,e,hF2.mem _ ht,IH _ ht (hF2.mem _ ht)⟩
  have b1:fs.length≤9223372036854775807:=by omega
  have hr:gvA (Zs (.map m))= .agg [.d (dI 6),.d (dI 0),.d (dF 0),.d (dS ⟨#[]⟩),.d (.sl 9 (fs.map fun p=>[dS p.1])),.d (.sl 27 (fs.map fun p=>gvD p.2))]:=by
   simp only [Zs,zc7,gvA,zbx,zcC,zfQ,hfs,ZS,zaD,zag,List.map_map];rfl
  have hks:ZS ((fromMs m).map (·.1))= .sl 9 (fs.map fun p=>[dS p.1]):=by simp only [hfs,ZS,zag,List.map_map];rfl
  have hsk:=zlg m hnd (by omega)
  rw[hks] at hsk
  rw[hr]
  (repeat' (first|(with_reducible first|refine zj (fun _=>?_) (fun _=>?_)|refine zi (fun _=>?_) (fun _=>?_)|refine zl (hsk) (by first|rfl|(simp -dsimp [b1];done)) ?_|(refine zx (hsk) rfl ?_ ?_ ?_;iterate 2 exact by first|rfl|(simp -dsimp [b1];done))|refine zk zb (by kernel_rfl) ?_|exact za rfl)|(simp -dsimp [b1])));(all_goals try with_reducible refine za ?_)
  refine zF (fun i:Nat=>match i with
   |0=>⟨[(2,.c (.own 2 0)),(11,.c (.d (.mp m))),(12,.c (.own 12 0)),(64,.c (.d (.sl 9 (fs.map fun p=>[dS p.1])))),(65,aI fs.length),(66,aI 0)],[(2,.cells [.d (dI 0),.d (dI 0),.d (dF 0),.d (dS ⟨#[]⟩),.d (.v (.slice none 0 0)),.d (.v (.slice none 0 0))] 27),(12,.cells [.d (dI 6),.d (dI 0),.d (dF 0),.d (dS ⟨#[]⟩),.d (.sl 9 (fs.map fun p=>[dS p.1])),.d (.v (.slice none 0 0))] 27)]⟩
   |i+1=>⟨[(2,.c (.own 2 0)),(11,.c (.d (.mp m))),(12,.c (.own 12 0)),(64,.c (.d (.sl 9 (fs.map fun p=>[dS p.1])))),(65,aI fs.length),(66,aI ((i+1:Nat):Int))],[(77,.arr (i+1) 27 ((fs.map fun p=>gvD p.2).take (i+1))),(2,.cells [.d (dI 0),.d (dI 0),.d (dF 0),.d (dS ⟨#[]⟩),.d (.v (.slice none 0 0)),.d (.v (.slice none 0 0))] 27),(12,.cells [.d (dI 6),.d (dI 0),.d (dF 0),.d (dS ⟨#[]⟩),.d (.sl 9 (fs.map fun p=>[dS p.1])),.gs 77 (i+1)] 27)]⟩)
   (fun i=>i≤fs.length) (fun i=>fs.length - i) 0 ?_ (Nat.zero_le _) ?_
  ·exact Weak.same (by simp -dsimp) (by simp -dsimp) (by first|rfl|(simp [zg,Av.ids,Ow.ids,Cl.ids,Go.Smd.keys];done))
  ·rintro i hi K hK
   cases i with
   |zero=>
    dsimp only
    by_cases hlt:0<fs.length
    ·obtain ⟨t,ht,he,_,IH0⟩:=hcell 0 hlt
     rw[←he] at IH0
     (repeat' (first|(with_reducible first|refine zj (fun _=>?_) (fun _=>?_)|refine zi (fun _=>?_) (fun _=>?_)|refine zl (IH0) (by first|rfl|(simp -dsimp [hlt,zc,ht,hnd];done)) ?_|(refine zx (IH0) rfl ?_ ?_ ?_;iterate 2 exact by first|rfl|(simp -dsimp [hlt,zc,ht,hnd];done))|refine zk zb (by kernel_rfl) ?_|exact za rfl)|(simp -dsimp [hlt,zc,ht,hnd])));(all_goals try with_reducible refine za ?_)
     refine hK _ 1 ?_ (by omega) (by omega)
     have e1:((fs.map fun p=>gvD p.2).take (0+1))= [gvD fs[0].2]:=by rw[List.take_succ_eq_append_getElem (by simpa using hlt)];simp
     dsimp only
     simp only [e1]
     exact Weak.same (by simp -dsimp [w1]) (by simp -dsimp [w1]) (by first|rfl|(simp [zg,Av.ids,Ow.ids,Cl.ids,Go.Smd.keys];done))
    ·have e:fs= []:=List.eq_nil_of_length_eq_zero (by omega)
     subst e
     (repeat' (first|(with_reducible first|refine zj (fun _=>?_) (fun _=>?_)|refine zi (fun _=>?_) (fun _=>?_)|refine zk zb (by kernel_rfl) ?_|exact za rfl)|(simp -dsimp)));(all_goals try with_reducible refine za ?_)
   |succ i=>
    dsimp only
    have hrl:((fs.map fun p=>gvD p.2).take (i+1)).length=i+1:=by simp;omega
    obtain ⟨R,hR⟩:∃R,R=(fs.map fun p=>gvD p.2).take (i+1):=⟨_,rfl⟩
    rw[←hR] at hrl ⊢
    by_cases hlt:i+1<fs.length
    ·obtain ⟨t,ht,he,_,IH0⟩:=hcell (i+1) hlt
     rw[←he] at IH0
     have hw:IntKind.wrap .i64 (((i+1:Nat):Int)+1)=((i+1+1:Nat):Int):=by rw[zq]<;>omega
     have hw2:IntKind.wrap .i64 ((i:Int)+1+1)=((i+1+1:Nat):Int):=by rw[zq]<;>omega
     have hb:(i+1+1)*88≤140737488351232:=by omega
     have h1:(i:Int)+1<fs.length:=by omega
     have h2:(0:Int)≤(i:Int)+1:=by omega
     have h3:((i:Int)+1).toNat=i+1:=by omega
     (repeat' (first|(with_reducible first|refine zj (fun _=>?_) (fun _=>?_)|refine zi (fun _=>?_) (fun _=>?_)|refine zl (IH0) (by first|rfl|(simp -dsimp [hlt,hrl,hw,hw2,hb,h1,h2,h3,zc,ht,hnd];done)) ?_|(refine zx (IH0) rfl ?_ ?_ ?_;iterate 2 exact by first|rfl|(simp -dsimp [hlt,hrl,hw,hw2,hb,h1,h2,h3,zc,ht,hnd];done))|refine zk zb (by kernel_rfl) ?_|exact za rfl)|(simp -dsimp [hlt,hrl,hw,hw2,hb,h1,h2,h3,zc,ht,hnd])));(all_goals try with_reducible refine za ?_)
     refine hK _ (i+1+1) ?_ (by omega) (by omega)
     have e1:((fs.map fun p=>gvD p.2).take (i+1+1))=R++ [gvD fs[i+1].2]:=by rw[List.take_succ_eq_append_getElem (by simpa using hlt),hR];simp
     dsimp only
     simp only [e1]
     exact Weak.same (by simp -dsimp) (by simp -dsimp) (by first|rfl|(simp [zg,Av.ids,Ow.ids,Cl.ids,Go.Smd.keys];done))
    ·have h1:¬(i:Int)+1<fs.length:=by omega
     have e:R=fs.map fun p=>gvD p.2:=by rw[hR,List.take_of_length_le (by simp;omega)]
     (repeat' (first|(with_reducible first|refine zj (fun _=>?_) (fun _=>?_)|refine zi (fun _=>?_) (fun _=>?_)|refine zk zb (by kernel_rfl) ?_|exact za rfl)|(simp -dsimp [h1])));(all_goals try with_reducible refine za ?_)
     rw[e]
theorem zeM (t:Tree)(ht:zaM t):ACalls prog 73 [.c (.d (dV t))] (fun r=>r=gvA (Zs t)):=by
 refine zf [] func73 (by kernel_rfl) rfl ntmps73 results73 (Nat.le_of_ble_eq_true (by kernel_rfl)) ?_;intro hok w0 S0
 clear hok
 (repeat' (first|(with_reducible first|refine zj (fun _=>?_) (fun _=>?_)|refine zi (fun _=>?_) (fun _=>?_)|refine zl (zic _) (by first|rfl|(simp -dsimp;done)) ?_|refine zl (znI _ ht) (by first|rfl|(simp -dsimp;done)) ?_|refine zk zb (by kernel_rfl) ?_|exact za rfl)|(simp -dsimp)));(all_goals try with_reducible refine za ?_)
end Go.Smd
end
