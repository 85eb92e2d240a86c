/- Part 20 of the proof: Vj Vk Fit. -/
import Derived.Test.YtdgnolbdcmgfoaaGreatQO18
import Derived.Test.YtdgnolbdcmgfoaaGreatQO19
import Derived.Test.YtdgnolbdcmgfoaaGreatQO02
import Derived.Laws.FloatBits
set_option linter.unusedVariables false
set_option linter.unusedSimpArgs false
set_option maxRecDepth 100000
set_option maxHeartbeats 8000000
section
namespace Go.Smd
open Go.RowKit Go.Proofs Go.Proofs.Tryz
theorem zpC (e:Tree→Tree→Bool)(l m:List Tree)(hl:l.length≤140737488351232)(hm:m.length≤140737488351232)
  (hc:∀x∈l,∀y∈m,ACalls prog zal [zY,.c (.d (dV x)),.c (.d (dV y))] (fun r=>r=aV (.bool (e x y)))):
  ACalls prog 345 [.c (.d (zpB l)),zY,.c (.d (dL m))] (fun r=>r=aV (.bool (eqL e l m))):=by
 refine zg [] func345 (by kernel_rfl) rfl ntmps345 results345 (Nat.le_of_ble_eq_true (by kernel_rfl)) ?_;intro hok w0 S0
 (repeat' (first|(with_reducible first|refine zl (fun _=>?_) (fun _=>?_)|refine zk (fun _=>?_) (fun _=>?_)|refine zt (zge e l m hl hm hc _ (.inr rfl)) (by first|rfl|(simp -dsimp;done)) ?_|refine zm zd (by kernel_rfl) ?_|exact zc rfl)|(simp -dsimp)));(all_goals try with_reducible refine zc ?_)
abbrev zrA:FuncId:=363
def eqK (e:Tree→Tree→Bool)(m1:List (ByteArray×Tree))(k:ByteArray)(v:Tree):Bool:=match Zg m1 k with|some x=>e x v|none=>false
abbrev cMp (m:List (ByteArray×Tree)):Ow:=.cells [.d (.mp m)] 444
abbrev cAl:Ow:=.cells [.d zdc] 194
abbrev cPV (i:Nat):Ow:=.cells [.own i 0] 271
theorem zwz (e:Tree→Tree→Bool)(m1:List (ByteArray×Tree))(hnd:(m1.map (·.1)).Nodup)(k:ByteArray)(v:Tree)(y:D)
  (hc:∀x∈m1,ACalls prog zal [zY,.c (.d (dV x.2)),.c (.d (dV v))] (fun r=>r=aV (.bool (e x.2 v)))):
  AProc prog zrA [.c (.d (.v (.string k))),.c (.io zww 1000000007 0),.c (.own 1000000003 0),.c (.own 1000000004 0),.c (.own 1000000005 0)]
   [(1000000003,cMp m1),(1000000004,cAl),(1000000005,cPV 1000000006),(1000000006,cVU y),(1000000007,cVU (.tr v))]
   (fun r own'=>∃y',r=aV (.bool (eqK e m1 k v))∧ze own' 1000000003=some (cMp m1)∧ze own' 1000000004=some cAl∧ze own' 1000000005=some (cPV 1000000006)∧ze own' 1000000006=some (cVU y')∧ze own' 1000000007=some (cVU (.tr v))):=by
 cases hg:Zg m1 k with
 |none=>
  refine zap [] func363 (by kernel_rfl) rfl ntmps363 results363 (Nat.le_of_ble_eq_true (by kernel_rfl)) ?_;intro hok w0 S0
  (repeat' (first|(with_reducible first|refine zl (fun _=>?_) (fun _=>?_)|refine zk (fun _=>?_) (fun _=>?_)|refine zm zd (by kernel_rfl) ?_|exact zc rfl)|(simp -dsimp [hg,hnd])));(all_goals try with_reducible refine zc ?_)
  refine ⟨y,by unfold eqK;rw[hg],?_⟩
  simp [ze]
 |some x=>
  have hcx:=hc (k,x) (zbP hg)
  refine zap [] func363 (by kernel_rfl) rfl ntmps363 results363 (Nat.le_of_ble_eq_true (by kernel_rfl)) ?_;intro hok w0 S0
  (repeat' (first|(with_reducible first|refine zl (fun _=>?_) (fun _=>?_)|refine zk (fun _=>?_) (fun _=>?_)|refine zm zd (by kernel_rfl) ?_|exact zc rfl)|(simp -dsimp [hg,hnd])));(all_goals try with_reducible refine zc ?_)
  refine zdH ?_
  refine zd9 zd [0,1,2,3,4,5,6] [(18,?m18),(19,?m19),(20,?m20),(21,?m21),(22,?m22),(23,?m23),(7,?m7)] [(3,?o3),(5,?o5)] ?hok ?hst ?hk
  case' hst=>refine ⟨?hv0,⟨_,rfl,?he0⟩,⟨?hv1,⟨_,rfl,?he1⟩,?hv2⟩⟩
  case hv0=>
   iterate 3 refine ⟨.inr ⟨_,_,rfl,rfl,by simp -dsimp [zi,hg,hnd]<;>with_reducible rfl⟩,?_⟩
   refine ⟨.inl (by kernel_rfl),?_⟩
   refine ⟨.inr ⟨_,_,rfl,rfl,by simp -dsimp [zi,hg,hnd]<;>with_reducible rfl⟩,?_⟩
   iterate 2 refine ⟨.inl (by kernel_rfl),?_⟩
   exact trivial
  case' he0=>refine zol (d:=21) (ρ:=[(1000000000,1000000006)]) (t:=0) (hR:=zea (.tr x) y) (hp:=rfl) (hd:=rfl) (hdk:=rfl) (hc:=by simp -dsimp [zi,hg,hnd]<;>(first|done|rfl|exact ⟨rfl,rfl⟩|exact ⟨rfl,rfl,rfl⟩)) (hx:=by simp -dsimp [zi,hg,hnd]<;>with_reducible rfl) (ho:=by simp -dsimp [zi,hg,hnd]) (hh:=by simp -dsimp [zi,hg,hnd]) (hb:=by simp -dsimp [zi,hg,hnd]) (h1:=by simp -dsimp [zi,hg,hnd]<;>with_reducible rfl) (hv:=by simp -dsimp [zi,hg,hnd]<;>with_reducible rfl) (hfix:= ?hf0)
  case hv1=>
   refine ⟨.inr ⟨_,_,rfl,rfl,by simp -dsimp [zi,hg,hnd]<;>with_reducible rfl⟩,?_⟩
   iterate 3 refine ⟨.inl (by kernel_rfl),?_⟩
   refine ⟨.inr ⟨_,_,rfl,rfl,by simp -dsimp [zi,hg,hnd]<;>with_reducible rfl⟩,?_⟩
   iterate 2 refine ⟨.inl (by kernel_rfl),?_⟩
   exact trivial
  case' he1=>(with_reducible apply zrw (d:=23) (hR:=hcx));(case hp=>rfl);(case hd=>rfl);(case hdk=>rfl);(case hc=>simp -dsimp [zi,hg,hnd]<;>(first|done|rfl|exact ⟨rfl,rfl⟩|exact ⟨rfl,rfl,rfl⟩));(case ha=>simp -dsimp [zi,hg,hnd]);(case hpl=>rfl);(case hoo=>rfl);(case hv=>simp -dsimp [zi,hg,hnd]<;>with_reducible rfl)
  case hv2=>
   iterate 6 refine ⟨.inl (by kernel_rfl),?_⟩
   refine ⟨.inr ⟨_,_,rfl,rfl,by simp -dsimp [zi,hg,hnd]<;>with_reducible rfl⟩,?_⟩
   exact trivial
  case he0=>simp -dsimp [zi,hg,hnd]
  case hok=>kernel_rfl
  refine ⟨rfl,?_⟩
  (repeat' (first|(with_reducible first|refine zl (fun _=>?_) (fun _=>?_)|refine zk (fun _=>?_) (fun _=>?_)|refine zm zd (by kernel_rfl) ?_|exact zc rfl)|(simp -dsimp)));(all_goals try with_reducible refine zc ?_)
  refine ⟨.tr x,by unfold eqK;rw[hg],?_⟩
  simp [ze]
theorem zwA (e:Tree→Tree→Bool)(m1:List (ByteArray×Tree))(hnd:(m1.map (·.1)).Nodup)(k:ByteArray)(v:Tree)(y:D)
  (hc:∀x∈m1,ACalls prog zal [zY,.c (.d (dV x.2)),.c (.d (dV v))] (fun r=>r=aV (.bool (e x.2 v)))):
  AProc prog zrA [.c (.d (.v (.string k))),.c (.io zww 1000000007 0),.c (.own 1000000003 0),.c (.own 1000000004 0),.c (.own 1000000005 0)]
   [(1000000003,cMp m1),(1000000004,cAl),(1000000005,cPV 1000000006),(1000000006,cVU y),(1000000007,cVU (.tr v))]
   (fun r own'=>∃y',True∧r=aV (.bool (eqK e m1 k v))∧own'= [(1000000003,cMp m1),(1000000004,cAl),(1000000005,cPV 1000000006),(1000000006,cVU y'),(1000000007,cVU (.tr v))]):=
 (zwz e m1 hnd k v y hc).drop fun r own' ⟨y',hr,h3,h4,h5,h6,h7⟩=>⟨_,⟨y',trivial,hr,rfl⟩,by
  intro p hp
  simp only [List.mem_cons,List.not_mem_nil,or_false] at hp
  rcases hp with rfl|rfl|rfl|rfl|rfl<;>assumption,by rfl,by rw[hr];rfl⟩
theorem zbw:∀{m:List (ByteArray×Tree)} {k:ByteArray} {v:Tree},(m.map (·.1)).Nodup→(k,v)∈m→Zg m k=some v
 | [],_,_,_,h=>by cases h
 |p::m,k,v,hnd,h=>by
  simp only [List.map_cons,List.nodup_cons] at hnd
  unfold Zg
  rcases List.mem_cons.1 h with rfl|h
  ·simp
  ·have hne:¬p.1=k:=fun e=>hnd.1 (e▸List.mem_map_of_mem h)
   rw[List.find?_cons_of_neg (by simpa using hne)]
   exact zbw hnd.2 h
def eqM (e:Tree→Tree→Bool)(m1 m2:List (ByteArray×Tree)):Bool:=m2.all fun p=>eqK e m1 p.1 p.2
theorem zrB (e:Tree→Tree→Bool)(m1 m:List (ByteArray×Tree))(hnd1:(m1.map (·.1)).Nodup)(hnd:(m.map (·.1)).Nodup)(y0:D)(hl:m.length≤4000000000000)
  (hc:∀x∈m1,∀v∈m,ACalls prog zal [zY,.c (.d (dV x.2)),.c (.d (dV v.2))] (fun r=>r=aV (.bool (e x.2 v.2)))):
  AProc prog 358 [.c (.d (.mp m)),zY,.c (.fn 1000000000)] [(1000000000,.clo (.fn zrA) [.own 1000000003 0,.own 1000000004 0,.own 1000000005 0]),(1000000003,cMp m1),(1000000004,cAl),(1000000005,cPV 1000000006),(1000000006,cVU y0)]
   (fun r own'=>r=aV (.bool (eqM e m1 m))):=by
 refine zap [] func358 (by kernel_rfl) rfl ntmps358 results358 (Nat.le_of_ble_eq_true (by kernel_rfl)) ?_;intro hok w0 S0
 (repeat' (first|(with_reducible first|refine zl (fun _=>?_) (fun _=>?_)|refine zk (fun _=>?_) (fun _=>?_))|((with_reducible apply zbH [] (f:=181));(case hc=>simp -dsimp [hnd];first|exact ⟨rfl,rfl⟩|exact ⟨rfl,rfl,rfl⟩);(case hf=>exact func181);(case hA=>simp -dsimp [hnd]<;>with_reducible rfl);(case hok=>simp -dsimp [hnd]);(case hY=>simp -dsimp [hnd]<;>with_reducible rfl);(case hO=>simp -dsimp [hnd]<;>with_reducible rfl);(case hn=>kernel_rfl);(case hb=>rfl);(case hN=>exact ntmps181);(case hrs=>exact results181);(case hl=>exact Nat.le_of_ble_eq_true (by kernel_rfl));intro hok w0 S0)|((with_reducible apply zce);(case hx=>simp -dsimp [hnd];with_reducible rfl);(case hd=>exact zbM))|((with_reducible apply zbT);(case hx=>simp -dsimp [hnd];first|done|with_reducible rfl);(case hid=>simp -dsimp [hnd];first|done|with_reducible rfl|exact ⟨rfl,rfl,rfl⟩|exact ⟨rfl,rfl⟩);(case' h1=>intro _ _ _);(case' h0=>intro _))|((with_reducible apply zbl);(case hx=>simp -dsimp [hnd];first|done|with_reducible rfl);(case hid=>simp -dsimp [hnd];first|done|with_reducible rfl|exact ⟨rfl,rfl,rfl⟩|exact ⟨rfl,rfl⟩))|((with_reducible apply zbk);(case hx=>simp -dsimp [hnd];with_reducible rfl);(case hT=>simp -dsimp [hnd]);(case hnd=>assumption);(case hz=>simp -dsimp [hnd]))|(with_reducible first|refine zm zd (by kernel_rfl) ?_|exact zc rfl)|(simp -dsimp [hnd])));(all_goals try with_reducible refine zc ?_)
 ·have e:m= []:=by assumption
  subst e
  rfl
 ·refine zJ (fun x:List ByteArray×List ByteArray×D×Option ByteArray×D=>⟨[(1,zY),(2,.c (.fn 1000000000)),(7,.c (.own 15004 0)),(20,.c (.fn 20))],[(20,.clo (.it m x.1 x.2.2.2.1) []),(15004,cVU x.2.2.1),(1000000000,.clo (.fn zrA) [.own 1000000003 0,.own 1000000004 0,.own 1000000005 0]),(1000000003,cMp m1),(1000000004,cAl),(1000000005,cPV 1000000006),(1000000006,cVU x.2.2.2.2)]⟩)
   (fun x=>x.1.Nodup∧(x.2.1++x.1).Perm (m.map (·.1))∧∀k∈x.2.1,∀v,(k,v)∈m→eqK e m1 k v=true) (fun x=>x.1.length) (m.map (·.1),[],.v .nilIface,none,y0) ?_ ⟨hnd,List.Perm.refl _,by simp⟩ ?_
  ·exact Weak.same (by simp -dsimp) (by simp -dsimp) (by first|rfl|(simp [zj,Av.ids,Ow.ids,Cl.ids,Go.Smd.keys];done))
  ·rintro ⟨left,dn,y,cur,y1⟩ ⟨hnl,hpm,hdn⟩ K hK
   dsimp only at hnl hpm hdn hK ⊢
   have hin:∀k∈left,(k,(Zg m k).getD .nil)∈m:=fun k hk=>by
    have h1:k∈m.map (·.1):=hpm.mem_iff.1 (List.mem_append_right _ hk)
    obtain ⟨v,hv⟩:=Option.isSome_iff_exists.1 (zgL h1)
    rw[hv];exact zbP hv
   (repeat' (first|(with_reducible first|refine zl (fun _=>?_) (fun _=>?_)|refine zk (fun _=>?_) (fun _=>?_))|((with_reducible apply zbZ (ρ:=[(1000000000,15004)]) 7 (by rename_i k hk hs;exact zea (.tr ((Zg m k).getD .nil)) y));(case hc=>simp -dsimp [hnd]<;>first|exact ⟨rfl,rfl,rfl⟩|exact ⟨rfl,rfl⟩|done);(case hx=>simp -dsimp [hnd]<;>with_reducible rfl);(case ho=>simp -dsimp [hnd]);(case hh=>simp -dsimp [hnd]);(case hb=>simp -dsimp [hnd]))|((with_reducible apply zj2 (ρ:=[(1000000003,1000000003),(1000000004,1000000004),(1000000005,1000000005),(1000000006,1000000006),(1000000007,15004)]) 7 (by rename_i k hk hs;exact zwA e m1 hnd1 k ((Zg m k).getD .nil) y1 (fun x hx ↦ hc x hx (k,_) (hin k hk))));(case hc=>simp -dsimp [hnd]<;>first|exact ⟨rfl,rfl,rfl⟩|exact ⟨rfl,rfl⟩|done);(case hx=>simp -dsimp [hnd]<;>with_reducible rfl);(case ho=>simp -dsimp [hnd]);(case hh=>simp -dsimp [hnd]);(case hb=>intro x hx;simp -dsimp [hnd]);intro _ _)|((with_reducible apply zbT);(case hx=>simp -dsimp [hnd];first|done|with_reducible rfl);(case hid=>simp -dsimp [hnd];first|done|with_reducible rfl|exact ⟨rfl,rfl,rfl⟩|exact ⟨rfl,rfl⟩);(case' h1=>intro _ _ _);(case' h0=>intro _))|((with_reducible apply zbl);(case hx=>simp -dsimp [hnd];first|done|with_reducible rfl);(case hid=>simp -dsimp [hnd];first|done|with_reducible rfl|exact ⟨rfl,rfl,rfl⟩|exact ⟨rfl,rfl⟩))|((with_reducible apply zbk);(case hx=>simp -dsimp [hnd];with_reducible rfl);(case hT=>simp -dsimp [hnd]);(case hnd=>assumption);(case hz=>simp -dsimp [hnd]))|(with_reducible first|refine zm zd (by kernel_rfl) ?_|exact zc rfl)|(simp -dsimp [hnd])));(all_goals try with_reducible refine zc ?_)
   ·have el:left= []:=by assumption
    subst el
    rw[List.append_nil] at hpm
    refine congrArg (fun b=>aV (.bool b)) (Eq.symm (List.all_eq_true.2 fun p hp=>?_))
    exact hdn p.1 (hpm.mem_iff.2 (List.mem_map_of_mem hp)) p.2 hp
   ·rename_i k hk hs y' _ hf
    have hf:eqK e m1 k ((Zg m k).getD .nil)=false:=by simpa using hf
    refine congrArg (fun b=>aV (.bool b)) (Eq.symm ?_)
    cases hq:eqM e m1 m with
    |false=>rfl
    |true=>have:=List.all_eq_true.1 hq _ (hin k hk);rw[hf] at this;cases this
   ·rename_i k hk hs y' _ hf
    have hf:eqK e m1 k ((Zg m k).getD .nil)=true:=by simpa using hf
    have hp:=zcp hnl hk
    have hp2:=hp.length_eq
    simp only [List.length_cons] at hp2
    refine hK _ (left.filter fun x=>decide (x≠k),dn++ [k],.tr ((Zg m k).getD .nil),some k,y') ?_ ⟨hnl.filter _,?_,?_⟩ (by dsimp only;omega)
    ·exact Weak.same (by simp -dsimp) (by simp -dsimp) (by first|rfl|(simp [zj,Av.ids,Ow.ids,Cl.ids,Go.Smd.keys];done))
    ·refine List.Perm.trans ?_ hpm
     rw[List.append_assoc]
     exact List.Perm.append_left dn hp.symm
    ·intro q hq v hv
     rcases List.mem_append.1 hq with hq|hq
     ·exact hdn q hq v hv
     ·rw[List.mem_singleton] at hq;subst hq
      have h1:Zg m q=some v:=zbw hnd hv
      rw[h1] at hf;exact hf
theorem zrC (e:Tree→Tree→Bool)(m1 m:List (ByteArray×Tree))(hnd1:(m1.map (·.1)).Nodup)(hnd:(m.map (·.1)).Nodup)(y0:D)(hl:m.length≤4000000000000)
  (hc:∀x∈m1,∀v∈m,ACalls prog zal [zY,.c (.d (dV x.2)),.c (.d (dV v.2))] (fun r=>r=aV (.bool (e x.2 v.2)))):
  AProc prog 358 [.c (.d (.mp m)),zY,.c (.fn 1000000000)] [(1000000000,.clo (.fn zrA) [.own 1000000003 0,.own 1000000004 0,.own 1000000005 0]),(1000000003,cMp m1),(1000000004,cAl),(1000000005,cPV 1000000006),(1000000006,cVU y0)]
   (fun r own'=>r=aV (.bool (eqM e m1 m))∧own'= []):=
 (zrB e m1 m hnd1 hnd y0 hl hc).drop fun r own' hr=>⟨[],⟨hr,rfl⟩,by simp,rfl,by rw[hr];rfl⟩
def zeI (e:Tree→Tree→Bool)(m1 m2:List (ByteArray×Tree)):Bool:=decide (m1.length=m2.length) && eqM e m1 m2
theorem zrD (e:Tree→Tree→Bool)(m1 m2:List (ByteArray×Tree))(hnd1:(m1.map (·.1)).Nodup)(hnd2:(m2.map (·.1)).Nodup)(hl:m1.length+m2.length≤4000000000000)
  (hc:∀x∈m1,∀v∈m2,ACalls prog zal [zY,.c (.d (dV x.2)),.c (.d (dV v.2))] (fun r=>r=aV (.bool (e x.2 v.2)))):
  ACalls prog 353 [.c (.d (.mp m1)),zY,.c (.d (dM m2))] (fun r=>r=aV (.bool (zeI e m1 m2))):=by
 by_cases hlen:m1.length=m2.length
 ·have hi:(m1.length:Int)=m2.length:=by omega
  by_cases h0:m1= []
  ·subst h0
   have h2:m2= []:=List.eq_nil_of_length_eq_zero hlen.symm
   subst h2
   refine zg [(8,([],[(0,[]),(1,[]),(2,[]),(3,[]),(4,[])]))] func353 (by kernel_rfl) rfl ntmps353 results353 (Nat.le_of_ble_eq_true (by kernel_rfl)) ?_;intro hok w0 S0
   (repeat' (first|(with_reducible first|refine zl (fun _=>?_) (fun _=>?_)|refine zk (fun _=>?_) (fun _=>?_)|refine zt (zag _) (by first|rfl|(simp -dsimp;done)) ?_|refine Zu (zag _) rfl (by first|rfl|(simp -dsimp;done)) (by first|rfl|(simp -dsimp;done)) ?_|refine zm zd (by kernel_rfl) ?_|exact zc rfl)|(simp -dsimp)));(all_goals try with_reducible refine zc ?_)
  ·have h2:m2≠ []:=fun h=>h0 (List.eq_nil_of_length_eq_zero (by rw[hlen,h];rfl))
   have hq:zeI e m1 m2=eqM e m1 m2:=by unfold zeI;simp [hlen]
   rw[hq]
   refine zg [] func353 (by kernel_rfl) rfl ntmps353 results353 (Nat.le_of_ble_eq_true (by kernel_rfl)) ?_;intro hok w0 S0
   (repeat' (first|(with_reducible first|refine zl (fun _=>?_) (fun _=>?_)|refine zk (fun _=>?_) (fun _=>?_)|refine zt (zag _) (by first|rfl|(simp -dsimp [hi,h0,h2];done)) ?_|refine Zu (zag _) rfl (by first|rfl|(simp -dsimp [hi,h0,h2];done)) (by first|rfl|(simp -dsimp [hi,h0,h2];done)) ?_)|((with_reducible apply zbH [] (f:=181));(case hc=>simp -dsimp [hi,h0,h2];first|exact ⟨rfl,rfl⟩|exact ⟨rfl,rfl,rfl⟩);(case hf=>exact func181);(case hA=>simp -dsimp [hi,h0,h2]<;>with_reducible rfl);(case hok=>simp -dsimp [hi,h0,h2]);(case hY=>simp -dsimp [hi,h0,h2]<;>with_reducible rfl);(case hO=>simp -dsimp [hi,h0,h2]<;>with_reducible rfl);(case hn=>kernel_rfl);(case hb=>rfl);(case hN=>exact ntmps181);(case hrs=>exact results181);(case hl=>exact Nat.le_of_ble_eq_true (by kernel_rfl));intro hok w0 S0)|(with_reducible first|refine zm zd (by kernel_rfl) ?_|exact zc rfl)|(simp -dsimp [hi,h0,h2])));(all_goals try with_reducible refine zc ?_)
   refine zdH ?_
   refine zd9 zd [0,1,2,3,4] [(21,?m21),(22,?m22),(23,?m23),(24,?m24)] [(4,?o4)] ?hok ?hst ?hk
   case' hst=>refine ⟨?hv0,⟨_,rfl,?he0⟩,?hv1⟩
   case hv0=>
    iterate 4 refine ⟨.inr ⟨_,_,rfl,rfl,by simp -dsimp [zi]<;>with_reducible rfl⟩,?_⟩
    refine ⟨.inl (by kernel_rfl),?_⟩
    exact trivial
   case' he0=>(with_reducible apply zwu);(case hop=>rfl);(case hd=>rfl);(case hdk=>rfl);(case hx=>simp -dsimp [zi]<;>with_reducible rfl);(case hdl=>exact zbM);(case hoo=>rfl)
   case hv1=>
    iterate 5 refine ⟨.inl (by kernel_rfl),?_⟩
    exact trivial
   case hok=>kernel_rfl
   refine ⟨rfl,?_⟩
   (repeat' (first|(with_reducible first|refine zl (fun _=>?_) (fun _=>?_)|refine zk (fun _=>?_) (fun _=>?_)|refine zt (zag _) (by first|rfl|(simp -dsimp [hi,h0,h2];done)) ?_|refine Zu (zag _) rfl (by first|rfl|(simp -dsimp [hi,h0,h2];done)) (by first|rfl|(simp -dsimp [hi,h0,h2];done)) ?_)|((with_reducible apply zbH [] (f:=181));(case hc=>simp -dsimp [hi,h0,h2];first|exact ⟨rfl,rfl⟩|exact ⟨rfl,rfl,rfl⟩);(case hf=>exact func181);(case hA=>simp -dsimp [hi,h0,h2]<;>with_reducible rfl);(case hok=>simp -dsimp [hi,h0,h2]);(case hY=>simp -dsimp [hi,h0,h2]<;>with_reducible rfl);(case hO=>simp -dsimp [hi,h0,h2]<;>with_reducible rfl);(case hn=>kernel_rfl);(case hb=>rfl);(case hN=>exact ntmps181);(case hrs=>exact results181);(case hl=>exact Nat.le_of_ble_eq_true (by kernel_rfl));intro hok w0 S0)|((with_reducible apply zce);(case hx=>simp -dsimp [hi,h0,h2];with_reducible rfl);(case hd=>exact zbM))|((with_reducible apply zbZ (ρ:=[(1000000000,27),(1000000003,3),(1000000004,4),(1000000005,9),(1000000006,21004)]) 7 (zrC e m1 m2 hnd1 hnd2 (.v .nilIface) (by omega) hc));(case hc=>simp -dsimp [hi,h0,h2]<;>first|exact ⟨rfl,rfl,rfl⟩|exact ⟨rfl,rfl⟩|done);(case hx=>simp -dsimp [hi,h0,h2]<;>with_reducible rfl);(case ho=>simp -dsimp [hi,h0,h2]);(case hh=>simp -dsimp [hi,h0,h2]);(case hb=>simp -dsimp [hi,h0,h2]))|(with_reducible first|refine zm zd (by kernel_rfl) ?_|exact zc rfl)|(simp -dsimp [hi,h0,h2])));(all_goals try with_reducible refine zc ?_)
 ·have hi:¬(m1.length:Int)=m2.length:=by omega
  have hq:zeI e m1 m2=false:=by unfold zeI;simp [hlen]
  rw[hq]
  refine zg [(8,([],[(0,[]),(1,[]),(2,[]),(3,[]),(4,[])]))] func353 (by kernel_rfl) rfl ntmps353 results353 (Nat.le_of_ble_eq_true (by kernel_rfl)) ?_;intro hok w0 S0
  (repeat' (first|(with_reducible first|refine zl (fun _=>?_) (fun _=>?_)|refine zk (fun _=>?_) (fun _=>?_)|refine zt (zag _) (by first|rfl|(simp -dsimp [hi,hlen];done)) ?_|refine Zu (zag _) rfl (by first|rfl|(simp -dsimp [hi,hlen];done)) (by first|rfl|(simp -dsimp [hi,hlen];done)) ?_|refine zm zd (by kernel_rfl) ?_|exact zc rfl)|(simp -dsimp [hi,hlen])));(all_goals try with_reducible refine zc ?_)
def znD (a b:Nat):Bool:=FloatKind.f64.format.order a b==some .eq
def eqT (el:List Tree→List Tree→Bool)(em:List (ByteArray×Tree)→List (ByteArray×Tree)→Bool):Tree→Tree→Bool
 | .float a,.float b=>znD a b
 | .float a,.int b=>znD a (zgd b)
 | .int a,.float b=>znD (zgd a) b
 | .int a,.int b=>decide (a=b)
 | .str a,.str b=>decide (a=b)
 | .bool a,.bool b=>a==b
 | .list a,.list b=>el a b
 | .map a,.map b=>em a b
 | .nil,.nil=>true
 |_,_=>false
theorem zjo (el:List Tree→List Tree→Bool)(em:List (ByteArray×Tree)→List (ByteArray×Tree)→Bool)(x y:Tree)
  (hL:∀l m,x= .list l→y= .list m→ACalls prog 345 [.c (.d (zpB l)),zY,.c (.d (dL m))] (fun r=>r=aV (.bool (el l m))))
  (hM:∀l m,x= .map l→y= .map m→ACalls prog 353 [.c (.d (.mp l)),zY,.c (.d (dM m))] (fun r=>r=aV (.bool (em l m)))):
  ACalls prog zal [zY,.c (.d (dV x)),.c (.d (dV y))] (fun r=>r=aV (.bool (eqT el em x y))):=by
 cases x<;>cases y
 all_goals
  refine zg [] func232 (by kernel_rfl) rfl ntmps232 results232 (Nat.le_of_ble_eq_true (by kernel_rfl)) ?_;intro hok w0 S0
  (repeat' (first|(with_reducible first|refine zl (fun _=>?_) (fun _=>?_)|refine zk (fun _=>?_) (fun _=>?_)|refine zt (zj3 _) (by first|rfl|(simp -dsimp [Zf,zD,Zd,zx,zR,zS,Ze,zK];done)) ?_|refine zt (zom _) (by first|rfl|(simp -dsimp [Zf,zD,Zd,zx,zR,zS,Ze,zK];done)) ?_|refine zt (zir _) (by first|rfl|(simp -dsimp [Zf,zD,Zd,zx,zR,zS,Ze,zK];done)) ?_|refine zt (zmh _) (by first|rfl|(simp -dsimp [Zf,zD,Zd,zx,zR,zS,Ze,zK];done)) ?_|refine zt (zmi _) (by first|rfl|(simp -dsimp [Zf,zD,Zd,zx,zR,zS,Ze,zK];done)) ?_|refine zt (zon _) (by first|rfl|(simp -dsimp [Zf,zD,Zd,zx,zR,zS,Ze,zK];done)) ?_|refine zt (zmj _) (by first|rfl|(simp -dsimp [Zf,zD,Zd,zx,zR,zS,Ze,zK];done)) ?_|refine zt (zj4 _) (by first|rfl|(simp -dsimp [Zf,zD,Zd,zx,zR,zS,Ze,zK];done)) ?_|refine zt (zoo _) (by first|rfl|(simp -dsimp [Zf,zD,Zd,zx,zR,zS,Ze,zK];done)) ?_|refine zt (zit _) (by first|rfl|(simp -dsimp [Zf,zD,Zd,zx,zR,zS,Ze,zK];done)) ?_|refine zt (zmk _) (by first|rfl|(simp -dsimp [Zf,zD,Zd,zx,zR,zS,Ze,zK];done)) ?_|refine zt (zfp _ zdc) (by first|rfl|(simp -dsimp [Zf,zD,Zd,zx,zR,zS,Ze,zK];done)) ?_|refine zt (zgb _ zdc) (by first|rfl|(simp -dsimp [Zf,zD,Zd,zx,zR,zS,Ze,zK];done)) ?_|refine zt (hL _ _ rfl rfl) (by first|rfl|(simp -dsimp [Zf,zD,Zd,zx,zR,zS,Ze,zK];done)) ?_|refine zt (hM _ _ rfl rfl) (by first|rfl|(simp -dsimp [Zf,zD,Zd,zx,zR,zS,Ze,zK];done)) ?_)|((with_reducible apply zce);(case hx=>simp -dsimp [Zf,zD,Zd,zx,zR,zS,Ze,zK];with_reducible rfl);(case hd=>exact zbM))|(with_reducible first|refine zm zd (by kernel_rfl) ?_|exact zc rfl)|(simp -dsimp [Zf,zD,Zd,zx,zR,zS,Ze,zK])));(all_goals try with_reducible refine zc ?_)
 all_goals rfl
mutual
def z8:Tree→Prop
 | .list l=>l.length*88≤140737488351232∧FitsL l
 | .map m=>m.length*88≤140737488351232∧(m.map (·.1)).Nodup∧FitsM m
 |_=>True
def FitsL:List Tree→Prop
 | []=>True
 |x::l=>z8 x∧FitsL l
def FitsM:List (ByteArray×Tree)→Prop
 | []=>True
 |p::m=>z8 p.2∧FitsM m
end
theorem FitsL.mem:∀{l:List Tree},FitsL l→∀x∈l,z8 x
 | [],_,x,h=>by cases h
 |y::l,hf,x,h=>by
  simp only [FitsL] at hf
  rcases List.mem_cons.1 h with rfl|h
  ·exact hf.1
  ·exact FitsL.mem hf.2 x h
theorem FitsM.mem:∀{m:List (ByteArray×Tree)},FitsM m→∀p∈m,z8 p.2
 | [],_,x,h=>by cases h
 |y::l,hf,x,h=>by
  simp only [FitsM] at hf
  rcases List.mem_cons.1 h with rfl|h
  ·exact hf.1
  ·exact FitsM.mem hf.2 x h
theorem zoq (k q:ByteArray)(t:Tree):∀m:zaK,q∈(ins k t m).map (·.1)↔q=k∨q∈m.map (·.1)
 | []=>by simp [ins]
 |p::m=>by
  simp only [ins]
  by_cases h:p.1=k
  ·rw[if_pos h];simp [h]
  ·rw[if_neg h]
   have:=zoq k q t m
   simp only [List.map_cons,List.mem_cons,this]
   constructor<;>rintro (h|h|h)<;>simp [h]
theorem znE {k:ByteArray}{t:Tree}{p:ByteArray×Tree}:∀{m:zaK},p∈ins k t m→p=(k,t)∨p∈m
 | [],h=>by simp [ins] at h;exact .inl h
 |q::m,h=>by
  simp only [ins] at h
  split at h
  ·rcases List.mem_cons.1 h with h|h
   ·exact .inl h
   ·exact .inr (List.mem_cons_of_mem _ h)
  ·rcases List.mem_cons.1 h with h|h
   ·exact .inr (h▸List.mem_cons_self ..)
   ·rcases znE h with h|h
    ·exact .inl h
    ·exact .inr (List.mem_cons_of_mem _ h)
theorem zj7 {k:ByteArray}{t:Tree}:∀{m:zaK},(m.map (·.1)).Nodup→((ins k t m).map (·.1)).Nodup
 | [],_=>by simp [ins]
 |q::m,h=>by
  simp only [List.map_cons,List.nodup_cons] at h
  simp only [ins]
  split
  ·next e=>simp only [List.map_cons,List.nodup_cons];rw[←e];exact h
  ·next e=>
   simp only [List.map_cons,List.nodup_cons]
   refine ⟨fun hm=>?_,zj7 h.2⟩
   rcases (zoq k q.1 t m).1 hm with h'|h'
   ·exact e h'
   ·exact h.1 h'
theorem zrE (k:ByteArray)(t:Tree):∀m:zaK,(ins k t m).length≤m.length+1
 | []=>by simp [ins]
 |q::m=>by simp only [ins];split<;>simp;exact zrE k t m
theorem zfJ:∀(ks:List ByteArray) (ts:List Tree) (m:zaK),(m.map (·.1)).Nodup→(∀p∈m,z8 p.2)→(∀t∈ts,z8 t)→
  ((ZE ks ts m).map (·.1)).Nodup∧(∀p∈ZE ks ts m,z8 p.2)∧(ZE ks ts m).length≤m.length+ts.length
 | [],ts,m,h1,h2,_=>by cases ts<;>exact ⟨by simpa [ZE] using h1,by simpa [ZE] using h2,by simp [ZE]⟩
 |k::ks,[],m,h1,h2,_=>⟨by simpa [ZE] using h1,by simpa [ZE] using h2,by simp [ZE]⟩
 |k::ks,t::ts,m,h1,h2,h3=>by
  simp only [ZE]
  obtain ⟨a,b,c⟩:=zfJ ks ts (ins k t m) (zj7 h1) (fun p hp=>by
   rcases znE hp with rfl|hp
   ·exact h3 t (List.mem_cons_self ..)
   ·exact h2 p hp) fun t ht=>h3 t (List.mem_cons_of_mem _ ht)
  exact ⟨a,b,by have:=zrE k t m;simp;omega⟩
theorem FitsL.of:∀{l:List Tree},(∀x∈l,z8 x)→FitsL l
 | [],_=>by simp [FitsL]
 |x::l,h=>by simp only [FitsL];exact ⟨h x (List.mem_cons_self ..),FitsL.of fun y hy=>h y (List.mem_cons_of_mem _ hy)⟩
theorem FitsM.of:∀{l:List (ByteArray×Tree)},(∀x∈l,z8 x.2)→FitsM l
 | [],_=>by simp [FitsM]
 |x::l,h=>by simp only [FitsM];exact ⟨h x (List.mem_cons_self ..),FitsM.of fun y hy=>h y (List.mem_cons_of_mem _ hy)⟩
theorem zpD {S:Nat→Prop}{w:World}{v:GV}{cs:List Value}(h:RepGV S w v cs):z8 (zp v):=by
 induction h with
 | @mk kind n f s keys l ka la kc lc ok hkc hlc hk ll hl hc ih=>
  have hall:∀t∈treesOf l,z8 t:=fun t ht=>by
   rw[ZJ] at ht
   obtain ⟨x,hx,rfl⟩:=List.mem_map.1 ht
   obtain ⟨j,hj,rfl⟩:=List.getElem_of_mem hx
   exact ih j l[j] (List.getElem?_eq_getElem hj)
  have hlen:(treesOf l).length=l.length:=by rw[ZJ,List.length_map]
  have hL:=ok.okL
  simp only [zp]
  repeat' split
  all_goals (try trivial)
  all_goals (try simp only [z8])
  ·exact ⟨by rw[hlen];exact hL,FitsL.of hall⟩
  ·obtain ⟨a,b,c⟩:=zfJ keys (treesOf l) [] (by simp) (by simp) hall
   refine ⟨?_,a,FitsM.of b⟩
   rw[hlen] at c
   simp at c
   omega
def ziA (a b:Nat):Option Ordering:=FloatKind.f64.format.order a b
theorem zgM {a b:Nat}(ha:(FloatKind.f64.format.read a).isNaN=false)(hb:(FloatKind.f64.format.read b).isNaN=false):∃o,ziA a b=some o:=by
 unfold ziA Ieee.Format.order
 cases hx:FloatKind.f64.format.read a<;>cases hy:FloatKind.f64.format.read b<;>simp_all [Ieee.Datum.isNaN,Ieee.Datum.order]
theorem zeJ {a:Nat}(h:ziA a a=some .eq):(FloatKind.f64.format.read a).isNaN=false:=by
 unfold ziA Ieee.Format.order at h
 cases hx:FloatKind.f64.format.read a<;>simp_all [Ieee.Datum.isNaN,Ieee.Datum.order]
theorem zj8 (neg:Bool)(r:Nat)(hr:r≤Ieee.double.infRung):(Ieee.double.read (Ieee.double.word neg r)).isNaN=false:=by
 have hinf:Ieee.double.infRung=9218868437227405312:=by decide+kernel
 have hsw:Ieee.double.signWeight=9223372036854775808:=by decide+kernel
 have hm:Ieee.double.word neg r % Ieee.double.signWeight=r:=by
  rw[hsw];unfold Ieee.Format.word;rw[hsw];split<;>omega
 unfold Ieee.Format.read
 simp only [hm]
 split
 ·rfl
 ·split
  ·rfl
  ·split
   ·rfl
   ·omega
theorem zeK (n:Int):(FloatKind.f64.format.read (FloatKind.f64.nearest n)).isNaN=false:=by
 unfold FloatKind.nearest FloatKind.encode FloatKind.format
 simp only [Ieee.Format.write,Ieee.Format.nearest]
 split
 ·exact zj8 _ _ (Nat.zero_le _)
 ·exact zj8 _ _ (Nat.min_le_right _ _)
end Go.Smd
end
