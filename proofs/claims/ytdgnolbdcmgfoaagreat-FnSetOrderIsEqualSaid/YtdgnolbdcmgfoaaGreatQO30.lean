/- Part 30 of the proof: Jg Jh Ji. -/
import Derived.Test.YtdgnolbdcmgfoaaGreatQO29
set_option linter.unusedVariables false
set_option linter.unusedSimpArgs false
set_option maxRecDepth 100000
set_option maxHeartbeats 8000000
section
namespace Go.Smd
open Go.RowKit Go.Proofs Go.Proofs.Tryz
def zr5:Value→Nat
 | .slice _ n _=>n
 |_=>0
theorem zfi (s:PS):s.ins []=s:=by cases s;simp only [PS.ins]
theorem zp0 {S:Nat→Prop}{w:World}{e:EV}{q:List EV}{A:Option Addr}{c:Nat}(h:RepD prog w S (zcs ((e::q).map z9)) (.slice A (q.length+1) c)):
  ∃(ad:Addr) (u0 u1 u2 u3:Value),A=some ad∧w.cell? ad=some u0∧w.cell? ⟨ad.block,ad.off+1,none⟩=some u1∧w.cell? ⟨ad.block,ad.off+2,none⟩=some u2∧w.cell? ⟨ad.block,ad.off+3,none⟩=some u3∧RepA prog S noB noH w (leA (z9 e)) (.agg #[u0,u1,u2,u3])∧q.length+1≤c∧(q.length+1)*32≤140737488351232∧
   (∀A',A'=(if c=1 then A else A.map (·.add 4))→∀W,RepD prog W S (zcs ((e::q).map z9)) (.slice A (q.length+1) c)→RepD prog W S (zcs (q.map z9)) (.slice A' q.length (c - 1))):=by
 have c4:prog.cellsOf 101=4:=by kernel_rfl
 have c32:prog.bytesOf 101=32:=by kernel_rfl
 obtain ⟨A1,c1,e1,hc,hb,hr⟩:=RepD.sl_iff.1 h
 simp only [List.map_cons,List.length_cons,List.length_map,c32] at e1 hc hb
 injection e1 with x1 x2 x3
 subst x1;subst x3
 obtain ⟨hl0,h0⟩:=hr 0 (leD (z9 e)) (by simp)
 obtain ⟨ad,rfl,hrow⟩:=h0 (by rw[c4];omega)
 obtain ⟨d0,d1,d2,d3,hd,hd'⟩:=zby (z9 e)
 rw[hd] at hrow
 have z0:(ad.add (0*prog.cellsOf 101))=ad:=by simp [Addr.add]
 rw[z0] at hrow
 obtain ⟨u0,_,g0,r0⟩:=hrow 0 d0 rfl
 obtain ⟨u1,_,g1,r1⟩:=hrow 1 d1 rfl
 obtain ⟨u2,_,g2,r2⟩:=hrow 2 d2 rfl
 obtain ⟨u3,_,g3,r3⟩:=hrow 3 d3 rfl
 refine ⟨ad,u0,u1,u2,u3,rfl,by simpa [Addr.add] using g0,by simpa [Addr.add] using g1,by simpa [Addr.add] using g2,by simpa [Addr.add] using g3,?_,hc,hb,fun A' hA' W hW=>?_⟩
 ·rw[hd']
  exact ⟨[u0,u1,u2,u3],rfl,.cons r0 (.cons r1 (.cons r2 (.cons r3 .nil)))⟩
 ·obtain ⟨A2,c2,e2,hc2,hb2,hr2⟩:=RepD.sl_iff.1 hW
  simp only [List.map_cons,List.length_cons,List.length_map,c32] at e2 hc2 hb2
  injection e2 with y1 y2 y3
  subst y1;subst y3
  refine RepD.sl_iff.2 ⟨A',c - 1,by simp,by simp;omega,by simp [c32];omega,fun j r hj=>?_⟩
  obtain ⟨k1,k2⟩:=hr2 (j+1) r (by simpa using hj)
  refine ⟨k1,fun h0=>?_⟩
  obtain ⟨ad2,k3,k4⟩:=k2 h0
  cases k3
  have hj':=(List.getElem?_eq_some_iff.1 hj).1
  simp only [List.length_map] at hj'
  rw[if_neg (by omega)] at hA'
  refine ⟨ad.add 4,hA',?_⟩
  rw[c4] at k4 ⊢
  rw[zfX]
  have:4+j*4=(j+1)*4:=by omega
  rw[this];exact k4
theorem zr6 (W:World)(ad:Addr)(n c:Nat)(h:n+1+1≤c):(Instr.slice 149 (.slice (some ad) (n+1+1) c) (some (.int .i64 1)) none none).run prog W= .ok (.slice (some (ad.add 4)) (n+1) (c - 1)) W:=by
 obtain ⟨i,hi',h4⟩:=Option.map_eq_some_iff.1 (show (prog.info? 101).map (·.size)=some 4 from by kernel_rfl)
 have ht:=underlying149
 have hel:prog.elem 149=101:=by simp [Program.elem,ht]
 have hu:prog.underlying 149=some (.slice (prog.elem 149)):=by rw[hel];exact ht
 have hc1:¬c=1:=by omega
 have h1:(0:Int)≤1:=by omega
 rw[run_slice_l W 149 (some ad) (n+1+1) c hu .i64 1 h1 (by omega),hel]
 simp [sizeOf,typeInfo,hi',sliced,Result.andThen,h4,hc1]
theorem zjt {S:Nat→Prop}{w:World}{s:PS}{b:Nat}{F:List Nat}{N:Nat}(p:List EV)(h:HasS prog S w (stP s) b F)(hS:∀x,S x→x<w.heap.size∧x∉F)(ok:OkS N s)(hN:(N+1)*40≤140737488351232)
  (hp:∀e∈p,GoodE e) (pv:Value) (hpv:RepD prog w S (zcs (p.map z9)) pv):
  Calls prog 149 #[.pointer (some ⟨b,0,none⟩),pv] w fun en w'=>en= .returned (.tuple #[])∧zct prog S w b F (stP (s.ins p)) w':=by
 cases p with
 |nil=>
  obtain ⟨A,c,rfl,_⟩:=RepD.sl_iff.1 hpv
  have HO:Hid (zct prog S w b F (stP (s.ins [])) w):=by
   rw[zfi]
   exact ⟨F,S,h,fun _ h=>h,fun x h=>.inl h,hS,fun x h=>.inl h,GrownX.refl _ _⟩
  clear h hpv
  go_enter func149,ntmps149
  go_wp2
  ((try simp only [Exit.inBlock,Exit.then]);refine bodyPost_ret (results_none rfl _ _ _) rfl ?_)
  exact ⟨rfl,HO.out⟩
 |cons e0 q0=>
  obtain ⟨A0,c0,e1,hc0,hb0,_⟩:=RepD.sl_iff.1 hpv
  have c32:prog.bytesOf 101=32:=by kernel_rfl
  simp only [List.length_map,List.length_cons,c32] at e1 hb0
  subst e1
  have hq0:q0.length+1≤9223372036854775807:=by omega
  have HI:Hid (RepD prog w S (zcs ((e0::q0).map z9)) (.slice A0 (q0.length+1) c0)∧HasS prog S w (stP s) b F∧(∀x,S x→x<w.heap.size∧x∉F)∧OkS N s∧(∀y∈e0::q0,GoodE y)∧∀w2,zct prog S w b F (stP (s.ins (e0::q0))) w2→zct prog S w b F (stP (s.ins (e0::q0))) w2):=
   Lib.hid ⟨hpv,h,hS,ok,hp,fun _ h=>h⟩
  clear hpv h hS ok hp hc0 hb0
  go_enter func149,ntmps149
  go_wp2
  go_loopw [0,1] (fun v0 v1 wr=>∃(s':PS) (e:EV) (q:List EV) (b':Nat) (F':List Nat) (A:Option Addr) (c:Nat),v0= .pointer (some ⟨b',0,none⟩)∧v1= .slice A (q.length+1) c∧Hid (RepD prog wr S (zcs ((e::q).map z9)) (.slice A (q.length+1) c)∧HasS prog S wr (stP s') b' F'∧(∀x,S x→x<wr.heap.size∧x∉F')∧OkS N s'∧(∀y∈e::q,GoodE y)∧∀w2,zct prog S wr b' F' (stP (s'.ins (e::q))) w2→zct prog S w b F (stP (s.ins (e0::q0))) w2)) (fun _ v1 _=>zr5 v1)
  case atStart=>exact ⟨s,e0,q0,b,F,A0,c0,rfl,rfl,HI⟩
  case round=>
   obtain ⟨s',e,q,b',F',A,c,rfl,rfl,hI⟩:=hrel
   have HId:Hid (RepD prog wr.drew S (zcs ((e::q).map z9)) (.slice A (q.length+1) c)∧HasS prog S wr.drew (stP s') b' F'∧(∀x,S x→x<wr.drew.heap.size∧x∉F')∧OkS N s'∧(∀y∈e::q,GoodE y)∧∀w2,zct prog S wr.drew b' F' (stP (s'.ins (e::q))) w2→zct prog S w b F (stP (s.ins (e0::q0))) w2):=by
    obtain ⟨h1,h2,h3,h4,h5,h6⟩:=hI.out
    have hE:Ext wr wr.drew:=(Ext.refl wr).drew
    refine Lib.hid ⟨h1.ext hE,HasS.frame _ h2 (fun _ _=>rfl) (fun _ _=>rfl) fun _ h=>h,h3,h4,h5,fun w2 hO=>h6 w2 ?_⟩
    obtain ⟨F2,S2,k1,k2,k3,k4,k5,k6⟩:=hO
    exact ⟨F2,S2,k1,k2,k3,k4,k5,(GrownX.ofExt hE).trans k6⟩
   obtain ⟨ad,u0,u1,u2,u3,rfl,g0,g1,g2,g3,hu,hqc,hqb,hnext⟩:=zp0 HId.out.1
   have HU:=Lib.hid hu;have HN:=Lib.hid hnext
   clear hu hnext
   cases q with
   |nil=>
    simp only [List.length_nil,Nat.zero_add] at hqc hqb ⊢
    go_wp2
    refine Z7 [6] (by kernel_rfl) ?_
    clear hI
    generalize wr.drew=w4 at HId HU HN g0 g1 g2 g3 ⊢
    refine ZN (listed':=lst 7 [0,1,2,3,4,5]) [0,1,2,3,4,5] 1 (by kernel_rfl) (fun _ _ _ _ h=>h) (by kernel_rfl) rfl (by kernel_rfl) ?_
    repeat (refine z7 rfl ?_;go_big_quiet_step (fail);refine wpQuiet_nil ?_)
    refine Zr ?_
    refine zcG (n:=0) (i:=6) (listed':=lst 7 [0,1,2,3,4,5,6]) (by kernel_rfl) rfl rfl rfl (by kernel_rfl) ?_
    go_wp2_with fail
    obtain ⟨ms,ks⟩:=s'
    refine (zmF HId.out.2.1 HId.out.2.2.1 HId.out.2.2.2.1 hN e (HId.out.2.2.2.2.1 e (by simp)) _ HU.out).mono ?_
    rintro en w5 ⟨rfl,hO⟩
    have HO:=Lib.hid (HId.out.2.2.2.2.2 w5 hO)
    clear hO
    go_wp2_with fail
    refine zcN (by kernel_rfl) ?_
    go_wp2
    refine bodyPost_ret (results_none rfl _ _ _) rfl ?_
    exact ⟨rfl,HO.out⟩
   |cons f q'=>
    have hlen:(f::q').length=q'.length+1:=rfl
    rw[hlen] at hqc hqb ⊢
    have hq1:q'.length+1+1≤9223372036854775807:=by omega
    have hcut:=fun W=>zr6 W ad q'.length c hqc
    go_wp2
    refine Z7 [6] (by kernel_rfl) ?_
    clear hI
    generalize wr.drew=w4 at HId HU HN g0 g1 g2 g3 ⊢
    refine ZN (listed':=lst 8 [0,1,2,3,4,5]) [0,1,2,3,4,5] 2 (by kernel_rfl) (fun _ _ _ _ h=>h) (by kernel_rfl) rfl (by kernel_rfl) ?_
    repeat (refine z7 rfl ?_;go_big_quiet_step (fail);refine wpQuiet_nil ?_)
    refine Zr ?_
    refine zcG (n:=1) (i:=6) (listed':=lst 8 [0,1,2,3,4,5,6]) (by kernel_rfl) rfl rfl rfl (by kernel_rfl) ?_
    go_wp2_with fail
    obtain ⟨ms,ks⟩:=s'
    refine (zmG HId.out.2.1 HId.out.2.2.1 HId.out.2.2.2.1 hN e (HId.out.2.2.2.2.1 e (by simp)) _ HU.out).mono ?_
    rintro en w5 ⟨b2,F2,rfl,hk2,hF2,hG,hwand⟩
    have HI5:Hid (RepD prog w5 S (zcs ((f::q').map z9)) (.slice (some (ad.add 4)) (q'.length+1) (c - 1))∧HasS prog S w5 (stP (Zw e ks)) b2 F2∧(∀x,S x→x<w5.heap.size∧x∉F2)∧OkS N (Zw e ks)∧(∀y∈f::q',GoodE y)∧∀w2,zct prog S w5 b2 F2 (stP ((Zw e ks).ins (f::q'))) w2→zct prog S w b F (stP (s.ins (e0::q0))) w2):=by
     obtain ⟨k1,k2,k3,k4,k5,k6⟩:=HId.out
     refine Lib.hid ⟨?_,hk2,fun x hx=>⟨Nat.lt_of_lt_of_le (k3 x hx).1 hG.size,fun hx2=>?_⟩,?_,fun y hy=>k5 y (List.mem_cons_of_mem _ hy),fun w2 hO=>k6 w2 ?_⟩
     ·have h1:=HN.out (some (ad.add 4)) (by rw[if_neg (by omega)];rfl) w4 k1
      exact h1.frame (fun x hx=>hG.block x (k3 x hx).1 (k3 x hx).2) fun _ h=>h
     ·rcases hF2 x hx2 with h|h
      ·exact (k3 x hx).2 h
      ·have:=(k3 x hx).1;omega
     ·simp only [OkS] at k4
      exact zdr e k4.2.2.2.2.2.2
     ·have:=hwand _ w2 hO
      simp only [PS.ins]
      exact this
    clear hk2 hF2 hG hwand
    go_wp2_with fail
    refine ZN (listed':=lst 8 [0,1,2,3,4,5,6,7]) [7] 0 (by kernel_rfl) (fun _ _ _ _ h=>h) (by kernel_rfl) rfl (by kernel_rfl) ?_
    repeat (refine z7 rfl ?_;go_big_quiet_step (fail);refine wpQuiet_nil ?_)
    refine Zr ?_
    refine zcN (by kernel_rfl) ?_
    go_wp2
    go_roundw
    case rel=>
     have ea:ad.add 4=⟨ad.block,ad.off+4,none⟩:=by simp [Addr.add]
     rw[ea] at HI5
     exact ⟨_,_,_,_,_,_,_,_,_,_,_,_,_,_,_,_,_,_,_,_,_,⟨Zw e ks,f,q',b2,F2,some ⟨ad.block,ad.off+4,none⟩,c - 1,rfl,rfl,HI5⟩,rfl⟩
    case measure=>simp [zr5]
theorem zfj {v:Value}{F:List Nat}{t:ST}{xs:List Cl}{b:Nat}:occ v (.clo (.set F t) xs) b↔bk v=some b∨b∈F:=by simp [occ,Ow.fp,Hd.fp]
theorem zmH (s:PS)(F:List Nat)(N:Nat)(p:List EV)(ok:OkS N s)(hN:(N+1)*40≤140737488351232)(hp:∀e∈p,GoodE e):
  AProc prog 149 [.c (.fn 1000000000),.c (.d (zcs (p.map z9)))] [(1000000000,.clo (.set F (stP s)) [])]
   (fun r own'=>∃F',True∧r= .tup []∧own'= [(1000000000,.clo (.set F' (stP (s.ins p))) [])]):=by
 refine ⟨⟨_,func149,by kernel_rfl,rfl⟩,fun w E β vs sm ha=>?_⟩
 obtain ⟨v,_,rfl,a1,ha⟩:=ha.inv
 obtain ⟨pv,_,rfl,a2,ha⟩:=ha.inv
 cases ha.inv0
 obtain ⟨σ,hσ⟩:∃σ:St,σ=⟨[],[(1000000000,.clo (.set F (stP s)) [])]⟩:=⟨_,rfl⟩
 have q0:σ.h 1000000000=some (.clo (.set F (stP s)) []):=by rw[hσ];rfl
 have qn:∀i o,σ.h i=some o→i=1000000000∧o= .clo (.set F (stP s)) []:=fun i o h=>by
  rw[hσ] at h
  simp only [St.h,ze] at h
  split at h
  ·next e=>cases h;exact ⟨e.symm,rfl⟩
  ·cases h
 have eo:ze [((1000000000:Nat),Ow.clo (.set F (stP s)) [])]=σ.h:=by rw[hσ];rfl
 rw[eo] at a1 a2
 rw[←hσ] at sm
 obtain ⟨_,_,h1,h2,_⟩:=a1
 obtain ⟨us,⟨rfl,b,hv,hS⟩,hus⟩:=sm.own _ _ q0
 rw[h2,hv]
 have hdis:∀x,Sd w E β σ.h w x→x<w.heap.size∧x∉F:=fun x hx=>⟨hx.2.1,fun hF=>hx.2.2 _ _ q0 (zfj.2 (.inr hF))⟩
 refine (zjt p hS hdis ok hN hp pv a2).mono ?_
 rintro en w' ⟨rfl,F',S',k1,k2,k3,k4,k5,k6⟩
 have hbF:b∈F':=HasS.mem k1
 have occF:∀x,x∈F→occ (β 1000000000) (.clo (.set F (stP s)) []) x:=fun x hx=>zfj.2 (.inr hx)
 have hnk:∀x,x∈F→¬E.K x:=fun x hx=>(sm.new _ _ x q0 (occF x hx)).1
 obtain ⟨s1,_⟩:=sm.writeX (id:=1000000000) (o':=.clo (.set F' (stP (s.ins p))) []) (v':=β 1000000000) (fun h=>by rw[q0] at h;cases h) (fun f xs h=>⟨⟨_,_,rfl⟩,rfl⟩) (k6.mono fun x hx=>⟨_,q0,occF x hx⟩)
  (fun x hx=>by
   rcases zfj.1 hx with h|h
   ·exact .inl ⟨_,q0,zfj.2 (.inl h)⟩
   ·rcases k5 x h with h5|h5
    ·exact .inl ⟨_,q0,occF x h5⟩
    ·exact .inr ⟨h5,HasS.blocks _ k1 x h⟩)
  (fun xs T h=>by rw[q0] at h;cases h) (fun ver E2 xs h=>by rw[q0] at h;cases h)
  fun hSS _=>by
   refine ⟨[],⟨rfl,b,hv,HasS.frame _ k1 (fun _ _=>rfl) (fun _ _=>rfl) fun x hx=>?_⟩,.nil⟩
   have k4x:=k4 x hx
   refine ⟨?_,k4x.1,fun i o hi ho=>?_⟩
   ·rcases k3 x hx with h|h|h
    ·exact h.1
    ·exact .inr (hnk x h)
    ·exact .inr fun hk=>by have h1:=sm.hK x hk;have h2:=sm.ext.size;omega
   ·rw[zq] at hi
    by_cases e:i=1000000000
    ·subst e
     simp only [if_true] at hi ho
     cases hi
     rcases zfj.1 ho with h|h
     ·rw[hv] at h
      have:x=b:=by simpa [bk] using h.symm
      exact k4x.2 (this▸hbF)
     ·exact k4x.2 h
    ·simp only [e,if_false] at hi
     exact e (qn i o hi).1
 have eh:(σ.new 1000000000 (.clo (.set F' (stP (s.ins p))) [])).h=ze [((1000000000:Nat),Ow.clo (.set F' (stP (s.ins p))) [])]:=by
  rw[zq]
  funext j
  show (if j=1000000000 then _ else σ.h j)=(if 1000000000=j then _ else none)
  by_cases e:j=1000000000
  ·rw[if_pos e,if_pos e.symm]
  ·rw[if_neg e,if_neg (Ne.symm e),hσ]
   exact if_neg (Ne.symm e)
 refine ⟨_,.tup [],_,_,rfl,⟨F',trivial,rfl,rfl⟩,Sim.eqv (σ:=σ.new 1000000000 (.clo (.set F' (stP (s.ins p))) [])) ⟨fun _=>?_,eh⟩ s1,⟨[],rfl,.nil⟩⟩
 rw[hσ];rfl
theorem zmI:AProc prog 148 [.c (.d (.sl 149 []))] [] (fun r own'=>r= .c (.own 7 0)∧own'= [(7,.cells [.d (.v (.slice none 0 0)),.d (.v (.slice none 0 0))] ziU)]):=by
 refine zap [] func148 (by kernel_rfl) rfl ntmps148 results148 (Nat.le_of_ble_eq_true (by kernel_rfl)) ?_;intro hok w0 S0
 (repeat' (first|(with_reducible first|refine zl (fun _=>?_) (fun _=>?_)|refine zk (fun _=>?_) (fun _=>?_)|refine zm zd (by kernel_rfl) ?_|exact zc rfl)|(simp -dsimp)));(all_goals try with_reducible refine zc ?_)
 refine zJ (fun _:Unit=>⟨[(3,.c (.own 7 0)),(8,.c (.d (.sl 149 []))),(9,aI 0),(10,aI 0)],[(7,.cells [.d (.v (.slice none 0 0)),.d (.v (.slice none 0 0))] ziU)]⟩) (fun _=>True) (fun _=>0) () ?_ trivial ?_
 ·exact Weak.same (by simp -dsimp) (by simp -dsimp) (by first|rfl|(simp [zj,Av.ids,Ow.ids,Cl.ids,Go.Smd.keys];done))
 ·rintro _ _ K hK
  (repeat' (first|(with_reducible first|refine zl (fun _=>?_) (fun _=>?_)|refine zk (fun _=>?_) (fun _=>?_)|refine zm zd (by kernel_rfl) ?_|exact zc rfl)|(simp -dsimp)));(all_goals try with_reducible refine zc ?_)
  exact ⟨rfl,rfl⟩
theorem zr7:AProc prog 148 [.c (.d (.sl 149 []))] [] (fun r own'=>∃F,True∧r= .c (.fn 7)∧own'= [(7,.clo (.set F (stP .empty)) [])]):=by
 refine ⟨zmI.1,fun w E β vs s ha=>(zmI.2 w E β vs s ha).mono ?_⟩
 rintro en w' ⟨v,r,β',own',rfl,⟨rfl,rfl⟩,s',hv⟩
 obtain ⟨_,_,b,_,h2,h3⟩:=hv
 obtain ⟨b',us,e1,e2,e3⟩:=s'.own 7 (.cells [.d (.v (.slice none 0 0)),.d (.v (.slice none 0 0))] ziU) rfl
 rw[h2] at e1
 cases e1
 obtain ⟨u1,us1,rfl,r1,e3⟩:=e3.inv
 obtain ⟨u2,us2,rfl,r2,e3⟩:=e3.inv
 cases e3.inv0
 cases (show RepD _ w' _ (.v (.slice none 0 0)) u1 from r1)
 cases (show RepD _ w' _ (.v (.slice none 0 0)) u2 from r2)
 have q2:∀i o,ze [((7:Nat),Ow.clo (.set [b] (stP .empty)) [])] i=some o→i=7∧o= .clo (.set [b] (stP .empty)) []:=fun i o h=>by
  simp only [ze] at h
  split at h
  ·next e=>cases h;exact ⟨e.symm,rfl⟩
  ·cases h
 have hb:=s'.new 7 _ b rfl (ZU.2 (by rw[h2];rfl))
 refine ⟨v,.c (.fn 7),β',[(7,.clo (.set [b] (stP .empty)) [])],rfl,⟨[b],trivial,rfl,rfl⟩,⟨s'.ext,s'.hK,fun i o0 hi0=>⟨(s'.kept i o0 hi0).1,fun o ho=>?_⟩,fun i j oi oj x hi hj _ _=>(q2 i oi hi).1.trans (q2 j oj hj).1.symm,fun i o x hi ho=>?_,fun i o hi=>?_,fun t=>trivial,rfl,fun d hd=>by simp [zhV] at hd⟩,⟨_,_,rfl,by rw[h3,h2],by rw[h3];rfl⟩⟩
 ·have:=(q2 i o ho).1
  have hz:=(s'.kept i o0 hi0).1
  unfold zed at hz
  omega
 ·obtain ⟨rfl,rfl⟩:=q2 i o hi
  rcases zfj.1 ho with h|h
  ·rw[h2] at h
   have:x=b:=by simpa [bk] using h.symm
   rw[this];exact hb
  ·have:x=b:=by simpa using h
   rw[this];exact hb
 ·obtain ⟨rfl,rfl⟩:=q2 i o hi
  refine ⟨[],⟨rfl,b,h2,?_⟩,.nil⟩
  simp only [PS.empty,stP,skP,List.map_nil,HasS]
  refine ⟨.slice none 0 0,.slice none 0 0,ziU,[],[],e2,Build.nil,Build.nil,⟨rfl,rfl⟩,by simp [Value.ownBlock],by simp,?_,?_⟩<;>simp [zlJ,zaP]
abbrev dLP (p:List EV):D:=zcs (p.map z9)
theorem zr8 (p:List EV)(hl:p.length*168≤140737488351232)(hp:∀e∈p,GoodE e):ACalls prog 104 [.c (.d (ZT p))] (fun r=>r= .c (.d (dLP p))):=zrP p hl fun e he=>(hp e he).s
theorem ztR (l:List (List EV))(hl:l.length≤3000000000000)(hp:∀p∈l,p.length*168≤140737488351232∧∀e∈p,GoodE e):ACalls prog 89 [.c (.d (ZY l))] (fun r=>r= .c (.d (.pt (psD (mkP l))))):=by
 have b1:l.length≤9223372036854775807:=by omega
 refine zg [] func89 (by kernel_rfl) rfl ntmps89 results89 (Nat.le_of_ble_eq_true (by kernel_rfl)) ?_;intro hok w0 S0
 clear hok
 (repeat' (first|(with_reducible first|refine zl (fun _=>?_) (fun _=>?_)|refine zk (fun _=>?_) (fun _=>?_))|((with_reducible apply zj2 (ρ:=[]) 7 (zr7));(case hc=>simp -dsimp [b1]<;>first|exact ⟨rfl,rfl,rfl⟩|exact ⟨rfl,rfl⟩|done);(case hx=>simp -dsimp [b1]<;>with_reducible rfl);(case ho=>simp -dsimp [b1]);(case hh=>simp -dsimp [b1]);(case hb=>intro x hx;simp -dsimp [b1]);intro _ _)|(with_reducible first|refine zm zd (by kernel_rfl) ?_|exact zc rfl)|(simp -dsimp [b1])));(all_goals try with_reducible refine zc ?_)
 rename_i F0 _
 refine zJ (fun x:Nat×List Nat=>⟨[(3,.c (.fn 8007)),(7,.c (.d (ZY l))),(8,aI l.length),(9,aI x.1)],[(8007,.clo (.set x.2 (stP (mkP (l.take x.1)))) [])]⟩) (fun x=>x.1≤l.length) (fun x=>l.length - x.1) (0,F0) ?_ (Nat.zero_le _) ?_
 ·exact Weak.same (by simp -dsimp) (by simp -dsimp) (by first|rfl|(simp [zj,Av.ids,Ow.ids,Cl.ids,Go.Smd.keys];done))
 ·rintro ⟨i,F⟩ hi K hK
  have hi:i≤l.length:=hi
  by_cases hlt:i<l.length
  ·have hw:IntKind.wrap .i64 ((i:Int)+1)=((i+1:Nat):Int):=by rw[zy]<;>omega
   have hq:=hp _ (List.getElem_mem hlt)
   have hc:=zr8 l[i] hq.1 hq.2
   have ht:∀p∈l.take i,∀e∈p,GoodE e:=fun p hm=>(hp p (List.mem_of_mem_take hm)).2
   have hok:=zeW _ _ rfl ht
   have hln:(l.take i).length=i:=by rw[List.length_take];omega
   rw[hln] at hok
   have hnx:mkP (l.take (i+1))=(mkP (l.take i)).ins l[i]:=by rw[List.take_succ_eq_append_getElem hlt,zdP]
   have hins:=zmH (mkP (l.take i)) F i l[i] hok (by omega) hq.2
   rw[←hnx] at hins
   (repeat' (first|(with_reducible first|refine zl (fun _=>?_) (fun _=>?_)|refine zk (fun _=>?_) (fun _=>?_)|refine zt (hc) (by first|rfl|(simp -dsimp [b1,hlt,hw];done)) ?_)|((with_reducible apply zj2 (ρ:=[(1000000000,8007)]) 7 (hins));(case hc=>simp -dsimp [b1,hlt,hw]<;>first|exact ⟨rfl,rfl,rfl⟩|exact ⟨rfl,rfl⟩|done);(case hx=>simp -dsimp [b1,hlt,hw]<;>with_reducible rfl);(case ho=>simp -dsimp [b1,hlt,hw]);(case hh=>simp -dsimp [b1,hlt,hw]);(case hb=>intro x hx;simp -dsimp [b1,hlt,hw]);intro _ _)|(with_reducible first|refine zm zd (by kernel_rfl) ?_|exact zc rfl)|(simp -dsimp [b1,hlt,hw])));(all_goals try with_reducible refine zc ?_)
   rename_i F' _
   refine hK _ (i+1,F') ?_ (by show i+1≤_;omega) (by show l.length - (i+1)<_;omega)
   exact Weak.same (by simp -dsimp) (by simp -dsimp) (by first|rfl|(simp [zj,Av.ids,Ow.ids,Cl.ids,Go.Smd.keys];done))
  ·have hi2:i=l.length:=by omega
   subst hi2
   rw[List.take_of_length_le (Nat.le_refl _)]
   (repeat' (first|(with_reducible first|refine zl (fun _=>?_) (fun _=>?_)|refine zk (fun _=>?_) (fun _=>?_)|refine zm zd (by kernel_rfl) ?_|exact zc rfl)|(simp -dsimp [b1])));(all_goals try with_reducible refine zc ?_)
theorem ACalls.args {P:Program}{f:FuncId}{args args':List Av}{R:Av→Prop}(h:ACalls P f args R)(k:∀(w:World) (S:Nat→Prop) (vs:List Value),All2 (RepA P S noB noH w) args' vs→All2 (RepA P S noB noH w) args vs):ACalls P f args' R:=
 ⟨h.1,fun w S vs hS ha=>h.2 w S vs hS (k w S vs ha)⟩
theorem RepD.pre {P:Program}{w:World}{S:Nat→Prop}{xs ys:List D}{v:Value}(h:RepD P w S (.pt (xs++ys)) v):RepD P w S (.pt xs) v:=by
 obtain ⟨a,rfl,hr⟩:=RepD.pt_iff.1 h
 exact RepD.pt_iff.2 ⟨a,rfl,fun i d hi=>hr i d (by rw[List.getElem?_append_left (List.getElem?_eq_some_iff.1 hi).1];exact hi)⟩
theorem ACalls.pre1 {P:Program}{f:FuncId}{xs ys:List D}{R:Av→Prop}(h:ACalls P f [.c (.d (.pt xs))] R):ACalls P f [.c (.d (.pt (xs++ys)))] R:=h.args fun w S vs ha=>by
 obtain ⟨v,vs,rfl,h1,ha⟩:=ha.inv
 cases ha.inv0
 exact .cons (RepD.pre (show RepD P w S _ v from h1)) .nil
theorem ACalls.pre2 {P:Program}{f:FuncId}{xs ys xs' ys':List D}{R:Av→Prop}(h:ACalls P f [.c (.d (.pt xs)),.c (.d (.pt xs'))] R):ACalls P f [.c (.d (.pt (xs++ys))),.c (.d (.pt (xs'++ys')))] R:=h.args fun w S vs ha=>by
 obtain ⟨v,vs,rfl,h1,ha⟩:=ha.inv
 obtain ⟨v',vs,rfl,h2,ha⟩:=ha.inv
 cases ha.inv0
 exact .cons (RepD.pre (show RepD P w S _ v from h1)) (.cons (RepD.pre (show RepD P w S _ v' from h2)) .nil)
theorem zoK:∀(k:PK) (i:Nat) (h:i<(pkD k).length) (h1:i<k.es.length) (h2:i<k.ss.length),(pkD k)[i]=eD k.es[i]++ [.pt (psD k.ss[i])]
 | .nil,i,h,_,_=>by rw[zoE] at h;simp at h
 | .cons e s r,0,h,_,_=>by simp only [zgo,List.getElem_cons_zero,PK.es,PK.ss]
 | .cons e s r,i+1,h,h1,h2=>by
  simp only [zgo,List.getElem_cons_succ,PK.es,PK.ss]
  exact zoK r i (by rw[zgo] at h;simpa using h) (by simpa [PK.es] using h1) (by simpa [PK.ss] using h2)
theorem zfU (k:PK)(i:Nat)(h:i<(pkD k).length)(h1:i<k.es.length)(h2:i<k.ss.length):∃e0 e1 e2 e3 A B,(pkD k)[i]= [e0,e1,e2,e3,.pt [.sl tPE A,.sl tSN B]]∧eD k.es[i]= [e0,e1,e2,e3]∧leA (z9 k.es[i])= .agg [.d e0,.d e1,.d e2,.d e3]∧psD k.ss[i]= [.sl tPE A,.sl tSN B]∧A=(k.ss[i]).ms.map eD∧B=pkD (k.ss[i]).ks:=by
 obtain ⟨e0,e1,e2,e3,he,he'⟩:=zby (z9 k.es[i])
 have hp:psD k.ss[i]= [.sl tPE ((k.ss[i]).ms.map eD),.sl tSN (pkD (k.ss[i]).ks)]:=by
  obtain ⟨ms,ks,hm⟩:∃ms ks,k.ss[i]= .mk ms ks:=by cases k.ss[i];exact ⟨_,_,rfl⟩
  rw[hm,zgW];rfl
 refine ⟨e0,e1,e2,e3,_,_,?_,he,he',hp,rfl,rfl⟩
 rw[zoK k i h h1 h2,hp]
 show leD (z9 k.es[i])++_=_
 rw[he];rfl
mutual
theorem ziY {Q:PS→Prop}(h:∀ms ks,(∀s∈ks.ss,Q s)→Q (.mk ms ks)):∀s:PS,Q s
 | .mk ms ks=>h ms ks (pk_ind h ks)
theorem pk_ind {Q:PS→Prop}(h:∀ms ks,(∀s∈ks.ss,Q s)→Q (.mk ms ks)):∀k:PK,∀s∈k.ss,Q s
 | .nil,s,hs=>by simp [PK.ss] at hs
 | .cons _ t r,s,hs=>by
  have h1:=ziY h t
  have h2:=pk_ind h r
  simp only [PK.ss] at hs
  rcases List.mem_cons.1 hs with hs|hs
  ·rw[hs];exact h1
  ·exact h2 s hs
end
mutual
def PS.size:PS→Nat
 | .mk ms ks=>ms.length+ks.size
def PK.size:PK→Nat
 | .nil=>0
 | .cons _ s r=>s.size+r.size
end
mutual
def PS.none:PS→Bool
 | .mk ms ks=>ms.isEmpty && ks.none
def PK.none:PK→Bool
 | .nil=>true
 | .cons _ s r=>s.none && r.none
end
end Go.Smd
end
