/- Part 36. -/
import Derived.Test.YtdgnolbdcmgfoaaGreatQD35
import Derived.Test.YtdgnolbdcmgfoaaGreatQD31
import Derived.Test.YtdgnolbdcmgfoaaGreatQD23
import Derived.Test.YtdgnolbdcmgfoaaGreatQD26
import Derived.Test.YtdgnolbdcmgfoaaGreatQD19
import Derived.Test.YtdgnolbdcmgfoaaGreatQD32
import Derived.Test.YtdgnolbdcmgfoaaGreatQD01
import Derived.Test.YtdgnolbdcmgfoaaGreatQD20
import Derived.Test.YtdgnolbdcmgfoaaGreatQD24
import Derived.Test.YtdgnolbdcmgfoaaGreatQD08
set_option linter.unusedVariables false
set_option linter.unusedSimpArgs false
set_option maxRecDepth 100000
set_option maxHeartbeats 8000000
section
namespace Go.Smd
open Go.RowKit Go.Proofs Go.Proofs.Tryz
abbrev zep:TypeId:=22
abbrev zga (W:List (List EV)):List (List D):=W.map fun w=>[z9 (cP w)]
theorem zki (W:List (List EV)):zU (W.map cP)= .sl zep (zga W):=by simp only [zU,List.map_map];rfl
theorem zcW:prog.cellsOf zep=1:=by kernel_rfl
theorem zkj:prog.bytesOf zep=24:=by kernel_rfl
theorem zsi:(prog.info? zep).map (fun i=>(i.zero,i.size,i.bytes))=some (some (.slice none 0 0),1,24):=by kernel_rfl
abbrev BW (S:Nat→Prop)(w wr:World)(v:Value)(W:List (List EV)):Prop:=Build (RDs prog) zep 1 (w.heap.size≤ ·) (fun b=>S b∨w.heap.size≤b) wr v (zga W)
theorem ztX (e:EV)(h:EVs e):EVs (CE e):=by
 have:=zkc e h
 exact ⟨this.1,this.2⟩
theorem ztY {W:List (List EV)}(hW:OkW W)(hl:W.length≤3000000000001)(hs:∀w∈W,PthS w){p:List EV}(hp:∀e∈p,GoodE e)(hps:PthS p):
  ACalls prog 94 [.c (.d (zU (W.map cP))),.c (.d (z9 p))] (fun r=>r= .tup [(false,[.d (dI (lbG zbq p W:Nat))]),(false,[.d (dB (zgH W p))])]):=by
 have ho:zli p:=fun e he=>(hp e he).o
 refine ztW (W.map cP) p (lbG zbq p W) (zgH W p) (by simp;omega) (fun w hw=>?_) hps ⟨by simpa using znK p W,fun j h k=>?_,fun j h k=>?_⟩ ?_
 ·obtain ⟨w0,h0,rfl⟩:=List.mem_map.1 hw
  have:=hs w0 h0
  refine ⟨by simp [cP];exact this.1,fun e he=>?_⟩
  obtain ⟨e0,h1,rfl⟩:=List.mem_map.1 he
  exact ztX e0 (this.2 e0 h1)
 ·rw[List.getElem_map,zf3]
  exact zlj p W j (by simpa using h) k
 ·rw[List.getElem_map,zf3]
  exact zlk zdL ho W hW.oe hW.sort j (by simpa using h) k
 ·rw[zdM,←ztU zdL ho hW.oe hW.sort]
  constructor
  ·rintro ⟨x,h1,h2⟩
   exact ⟨cP x,by rw[List.getElem?_map,h1];rfl,by rw[zf3];exact h2⟩
  ·rintro ⟨x,h1,h2⟩
   rw[List.getElem?_map,Option.map_eq_some_iff] at h1
   obtain ⟨y,h3,rfl⟩:=h1
   exact ⟨y,h3,by rw[zf3] at h2;exact h2⟩
theorem BW.dat {S:Nat→Prop}{w wr:World}{v:Value}{W:List (List EV)}(h:BW S w wr v W)(hl:W.length≤3000000000001):RepD prog wr (· <wr.heap.size) (zU (W.map cP)) v:=by
 rw[zki]
 have h2:=h.lt (zr _)
 refine Build.data (E:=zep) (S0:=fun b=>w.heap.size≤b∧b<wr.heap.size) (by rw[zcW];exact h2) ⟨by rw[zkj];simp;omega,fun x hx=>?_⟩ rfl (fun j x y hx hy=>by rw[hx] at hy;cases hy;exact ⟨rfl,fun us k=>(zr _).frame k (fun _ _=>rfl) fun b hb=>hb.2⟩) fun k hk=>h.row_lt hk
 obtain ⟨p,_,rfl⟩:=List.mem_map.1 hx
 rw[zcW];rfl
theorem BW.dat2 {S:Nat→Prop}{w wr:World}{v:Value}{W:List (List EV)}(h:BW S w wr v W)(hl:W.length≤3000000000001):RepD prog wr (fun b=>S b∨w.heap.size≤b) (zU (W.map cP)) v:=by
 rw[zki]
 refine Build.data (E:=zep) (S0:=(w.heap.size≤ ·)) (S:=fun b=>S b∨w.heap.size≤b) (by rw[zcW];exact h) ⟨by rw[zkj];simp;omega,fun x hx=>?_⟩ rfl (fun j x y hx hy=>by rw[hx] at hy;cases hy;exact ⟨rfl,fun us k=>k⟩) fun k hk=>.inr (h.row_in hk)
 obtain ⟨p,_,rfl⟩:=List.mem_map.1 hx
 rw[zcW];rfl
theorem zho:∀(n:Nat) (l:List (List EV)),(mkW (l.take n)).length≤n
 |0,l=>by simp
 |n+1,l=>by
  have ih:=zho n l
  rw[List.take_add_one]
  cases h:l[n]? with
  |none=>simp;omega
  |some p=>
   simp only [Option.toList_some,zf4,zfy]
   split
   ·omega
   ·split
    ·omega
    ·rw[ZV];omega
theorem zoz:∀(n:Nat) (l:List (List EV)) {x:List EV},x∈mkW (l.take n)→x∈l.take n
 |0,l,x,h=>by simp at h
 |n+1,l,x,h=>by
  have ih:=zoz n l (x:=x)
  rw[List.take_add_one] at h ⊢
  cases hp:l[n]? with
  |none=>rw[hp] at h;simp at h ⊢;exact ih h
  |some p=>
   rw[hp] at h
   simp only [Option.toList_some,zf4,zfy] at h ⊢
   simp only [List.mem_append,List.mem_singleton]
   split at h
   ·exact .inl (ih h)
   ·split at h
    ·exact .inl (ih h)
    ·rcases zci.1 h with rfl|h
     ·exact .inr rfl
     ·exact .inl (ih h)
theorem zpR (l:List (List EV))(w:World)(S:Nat→Prop)(lv:Value)(hlv:RepD prog w S (zU l) lv)(hS:∀b,S b→b<w.heap.size)(hl:l.length≤3000000000000)(hg:∀p∈l,PthS p∧∀e∈p,GoodE e):
  Calls prog 35 #[lv] w fun en w'=>∃v,en= .returned v∧RepD prog w' (fun b=>S b∨w.heap.size≤b) (zU ((mkW l).map cP)) v∧Ext w w':=by
 obtain ⟨A,c,e1,hc,_,hrow⟩:=RepD.sl_iff.1 hlv
 simp only [List.length_map] at e1 hc
 subst e1
 obtain ⟨n,hn⟩:∃n,l.length=n:=⟨_,rfl⟩
 have hitem:Hid (∀k,k<n→∃(p:List EV) (ad:Addr) (A':Option Addr) (c':Nat),l[k]? =some p∧A=some ad∧w.cell? (ad.add k)=some (.slice A' p.length c')∧RepD prog w S (z9 p) (.slice A' p.length c')):=by
  refine Lib.hid fun k hk=>?_
  have hp:l[k]? =some l[k]:=List.getElem?_eq_getElem (by omega)
  obtain ⟨_,h2⟩:=hrow k [z9 l[k]] (by rw[List.getElem?_map,hp];rfl)
  obtain ⟨ad,h3,h4⟩:=h2 (by rw[zcW];omega)
  obtain ⟨u,_,h6,h7⟩:=h4 0 (z9 l[k]) rfl
  obtain ⟨A',c',e2,_⟩:=RepD.sl_iff.1 h7
  simp only [List.length_map] at e2
  subst e2
  refine ⟨l[k],ad,A',c',hp,h3,?_,h7⟩
  rw[zcW,Nat.mul_one,zeR,Nat.add_zero] at h6
  exact h6
 have Hn:=Lib.hid hn
 rw[hn] at hc hl hlv ⊢
 have HSd:=Lib.hid hS;have Hg:=Lib.hid hg
 clear hrow hlv hS hg hn
 have hn9:n≤9223372036854775807:=by omega
 go_enter func35,ntmps35
 go_wp2
 go_loopw [3,10] (fun v i wr=>∃k:Nat,k≤n∧i= .int .i64 k∧Hid (Ext w wr∧BW S w wr v (mkW (l.take k)))) (fun _ i _=>n - (intOf i).toNat)
 case atStart=>exact ⟨0,Nat.zero_le _,rfl,Lib.hid ⟨Ext.refl w,Build.nil⟩⟩
 case round=>
  obtain ⟨k,hk,rfl,hI⟩:=hrel
  by_cases hlt:k<n
  ·obtain ⟨p,ad,A',c',hp,rfl,hcell,hrep⟩:=hitem.out k hlt
   have hcell:=hI.out.1.cell hcell
   have htk:mkW (l.take (k+1))=zfy p (mkW (l.take k)):=by rw[List.take_add_one,hp];simp [zf4]
   have Htk:=Lib.hid htk;have Hrep:=Lib.hid hrep;have Hp:=Lib.hid hp
   clear htk hrep hp
   have hpm:p∈l:=List.mem_of_getElem? Hp.out
   have hpl:p.length≤9223372036854775807:=by have:=(Hg.out p hpm).1.1;omega
   cases p with
   |nil=>
    go_wp2
    go_roundw
    case rel=>exact ⟨k+1,by omega,by go_num,Lib.hid ⟨hI.out.1,by rw[Htk.out];exact hI.out.2⟩⟩
    case measure=>simp [intOf];omega
   |cons e q=>
    obtain ⟨W,hW⟩:∃W,W=mkW (l.take k):=⟨_,rfl⟩
    obtain ⟨hE,hB⟩:=hI.out
    rw[←hW] at hB
    have hgt:∀q∈l.take k,∀e∈q,GoodE e:=fun q hq=>(Hg.out q (List.mem_of_mem_take hq)).2
    obtain ⟨okW,hsz,_⟩:=zf6 _ (l.take k) rfl hgt
    rw[←hW] at okW
    obtain ⟨m,hm⟩:∃m,m=W.length:=⟨_,rfl⟩
    have hmk:m≤k:=by rw[hm,hW];exact zho _ _
    have hsW:∀x∈W,PthS x:=fun x hx=>by
     rw[hW] at hx
     exact (Hg.out x (List.mem_of_mem_take (zoz _ _ hx))).1
    obtain ⟨A1,c1,hv⟩:=hB.slice
    rw[List.length_map,←hm] at hv
    subst hv
    have hcp:=ztY okW (by omega) hsW (Hg.out _ hpm).2 (Hg.out _ hpm).1
    have hd:=BW.dat hB (by omega)
    obtain ⟨i,hi⟩:∃i,i=lbG zbq (e::q) W:=⟨_,rfl⟩
    have hiw:i≤m:=by rw[hi,hm];exact znK _ _
    rw[←hi] at hcp
    have HPL:Hid (Calls prog 94 #[.slice A1 m c1,.slice A' (q.length+1) c'] wr fun en w2=>en= .returned (.tuple #[.int .i64 i,.bool (zgH W (e::q))])∧Ext wr w2):=by
     refine Lib.hid ((hcp.2 wr (· <wr.heap.size) [_,_] (fun b hb=>hb) (.cons hd (.cons ((Hrep.out.ext hE).mono fun b hb=>Nat.lt_of_lt_of_le (HSd.out b hb) hE.size) .nil))).mono ?_)
     rintro en w2 ⟨v,r,rfl,rfl,hv,hE2⟩
     refine ⟨?_,hE2⟩
     obtain ⟨us,rfl,ha⟩:=hv
     obtain ⟨p1,us,rfl,k1,ha⟩:=ha.inv
     obtain ⟨p2,us,rfl,k2,ha⟩:=ha.inv
     cases ha.inv0
     obtain ⟨x1,e1,k1⟩:=k1
     obtain ⟨x2,e2,k2⟩:=k2
     cases e1;cases e2
     cases (show RepD _ w2 _ (dI _) p1 from k1)
     cases (show RepD _ w2 _ (dB _) p2 from k2)
     rfl
    have Hi:=Lib.hid hi;have Hm:=Lib.hid hm;have HokW:=Lib.hid okW;have HsW:=Lib.hid hsW;have HW:=Lib.hid hW;have HE:=Lib.hid hE;have HB:=Lib.hid hB
    clear hi hcp hd hgt hsz hm okW hsW hW hE hB hI
    go_wp2_with fail
    refine HPL.out.mono ?_
    rintro en w2 ⟨rfl,hE2⟩
    have HE2:=Lib.hid hE2
    clear hE2 HPL hcell
    cases hfd:zgH W (e::q) with
    |true=>
     have hnx:mkW (l.take (k+1))=W:=by rw[Htk.out,←HW.out];simp [zfy,hfd]
     have HK:Hid (Ext w w2∧BW S w w2 (.slice A1 m c1) (mkW (l.take (k+1)))):=Lib.hid ⟨HE.out.trans HE2.out,by rw[hnx];exact HB.out.ext (zr _) HE2.out⟩
     clear hnx hfd
     go_wp2_with fail
     go_roundw
     case rel=>exact ⟨k+1,by omega,by go_num,HK⟩
     case measure=>simp [intOf];omega
    |false=>
     have HFD:=Lib.hid hfd
     clear hfd
     have hB2:=HB.out.ext (zr _) HE2.out
     have hsz2:w.heap.size≤w2.heap.size:=(HE.out.trans HE2.out).size
     obtain ⟨v5,w5,hrun,hB5,hg5,hat5,_⟩:=Build.push (P:=prog) (zr _) (t:=32) (ty:=32) underlying32 zsi rfl (by omega) (by omega) hB2 (y:=[z9 []]) (ys:=[.slice none 0 0]) (.cons (RepD.nil _) .nil) rfl (by simp [Value.oneCell']) (by omega) (by rw[List.length_map,←Hm.out];omega)
     obtain ⟨cs5,hown5,h1c,hel5⟩:=RDs.cells hB5 (by omega)
     have hbs5:∀x,v5.ownBlock=some x→w.heap.size≤x:=fun x hx=>hB5.row_in hx
     rw[List.length_append,List.length_map,←Hm.out] at hown5
     obtain ⟨g,cap,cur,rfl,z1,z2,z3,z4,z5⟩:=World.ownsRow.one hown5 (by simp)
     have hgw:w.heap.size≤g:=hbs5 g rfl
     simp only [List.length_cons,List.length_nil,Nat.zero_add,Nat.mul_one] at hrun hown5 z2 z4 z5
     have hE5:Ext w w5:=by
      refine ⟨hg5.os.trans (HE.out.trans HE2.out).os,hg5.tape.trans (HE.out.trans HE2.out).tape,hg5.output.trans (HE.out.trans HE2.out).output,Nat.le_trans hsz2 hg5.size,fun b hb=>?_⟩
      refine (hg5.block b (by omega) fun h=>?_).trans ((HE.out.trans HE2.out).block b hb)
      have:=HB.out.row_in h.symm
      omega
     have HR:=Lib.hid hrun;have HE5:=Lib.hid hE5;have HZ1:=Lib.hid z1;have HZ5:=Lib.hid z5;have HZ4:=Lib.hid z4;have H1C:=Lib.hid h1c;have HEL:=Lib.hid hel5;have HO5:=Lib.hid hown5
     clear hrun hB5 hg5 hat5 hown5 hbs5 z1 z4 z5 h1c hel5 hB2 hE5
     go_upto_region 9 with (at_builtin;refine zR HR.out rfl rfl rfl rfl ?_)
     have hgd:w5.drew.heap[g]? =some (.cells cur zep (0,0)):=HZ1.out
     have hcl:cs5.length=m+1:=by rw[HO5.out.1,Nat.mul_one]
     obtain ⟨cr,hcr⟩:∃cr,cr=(cs5.drop i).take (m - i):=⟨_,rfl⟩
     have hcrl:cr.length=m - i:=by rw[hcr,List.length_take,List.length_drop,hcl];omega
     obtain ⟨c9,hc9⟩:∃c9,c9=(cur.toList.take (i+1)++cr++cur.toList.drop (i+1+cr.length)).toArray:=⟨_,rfl⟩
     have hz4:=HZ4.out
     have hcsz:cur.toList.length=cap:=by rw[Array.length_toList];omega
     have hc9s:c9.size=cap:=by rw[hc9];simp only [List.size_toArray,List.length_append,List.length_take,List.length_drop,hcrl,hcsz];omega
     have hcap9:cap≤9223372036854775807:=by unfold maxLen at z3;omega
     obtain ⟨dv,hcut1,hcp⟩:∃dv,(∀W':World,(Instr.slice 32 (.slice (some ⟨g,0,none⟩) (m+1) cap) (some (.int .i64 ((i:Int)+1))) none none).run prog W'= .ok dv W')∧
       ∀ty,(Builtin.copy_ #[32,32] ty #[dv,.slice (some ⟨g,i,none⟩) (m+1 - i) (cap - i)]).run prog w5.drew= .ok (goInt ((m - i:Nat):Int)) (w5.drew.setRow g c9):=by
      have ht:=underlying32
      have hel:prog.elem 32=zep:=by simp [Program.elem,ht]
      have hu:prog.underlying 32=some (.slice (prog.elem 32)):=by rw[hel];exact ht
      obtain ⟨ifo,hi',h4⟩:=Option.map_eq_some_iff.1 (show (prog.info? zep).map (·.size)=some 1 from by kernel_rfl)
      have hsrc:∀(j:Nat) (v:Value),cr[j]? =some v→w5.drew.cell? ((⟨g,i,none⟩:Addr).add j)=some v:=fun j v hj=>by
       have e:(⟨g,i,none⟩:Addr).add j=⟨g,i+j,none⟩:=by unfold Addr.add;split<;>simp_all
       rw[e]
       refine zh hgd ?_
       rw[hcr,List.getElem?_take] at hj
       split at hj
       ·rw[List.getElem?_drop,←HZ5.out,List.getElem?_take] at hj
        split at hj
        ·simpa using hj
        ·cases hj
       ·cases hj
      have h1r:∀v∈cr,v.oneCell'=true:=fun v hv=>H1C.out v (by rw[hcr] at hv;exact List.mem_of_mem_drop (List.mem_of_mem_take hv))
      by_cases hci:cap=i+1
      ·have him:i=m:=by omega
       refine ⟨.slice (some ⟨g,0,none⟩) (m+1 - (i+1)) (cap - (i+1)),fun W'=>?_,fun ty=>?_⟩
       ·rw[run_slice_l W' 32 (some ⟨g,0,none⟩) (m+1) cap hu .i64 ((i:Int)+1) (by omega) (by omega),hel]
        have e1:((i:Int)+1).toNat=i+1:=by omega
        simp [sizeOf,typeInfo,hi',sliced,Result.andThen,h4,e1,hci]
       ·have hcr0:cr= []:=List.eq_nil_of_length_eq_zero (by omega)
        have h:=zaE (P:=prog) w5.drew 32 32 ty zep 1 g 0 (m+1 - (i+1)) (cap - (i+1)) ⟨g,i,none⟩ (m+1 - i) (cap - i) cur zep cr ht (by kernel_rfl) hgd (by rw[hcrl];simp only [Nat.min_def];split<;>omega) hsrc (by rw[hcrl,hz4];omega) h1r
        have e9:(cur.toList.take 0++cr++cur.toList.drop (0+cr.length)).toArray=c9:=by rw[hc9,hcr0];simp
        rw[e9] at h
        rw[h]
        have:Nat.min (m+1 - i) (m+1 - (i+1))=m - i:=by simp only [Nat.min_def];split<;>omega
        rw[this]
      ·refine ⟨.slice (some ⟨g,i+1,none⟩) (m+1 - (i+1)) (cap - (i+1)),fun W'=>?_,fun ty=>?_⟩
       ·rw[run_slice_l W' 32 (some ⟨g,0,none⟩) (m+1) cap hu .i64 ((i:Int)+1) (by omega) (by omega),hel]
        have e1:((i:Int)+1).toNat=i+1:=by omega
        simp [sizeOf,typeInfo,hi',sliced,Result.andThen,h4,e1,hci,Addr.add]
       ·have h:=zaE (P:=prog) w5.drew 32 32 ty zep 1 g (i+1) (m+1 - (i+1)) (cap - (i+1)) ⟨g,i,none⟩ (m+1 - i) (cap - i) cur zep cr ht (by kernel_rfl) hgd (by rw[hcrl];simp only [Nat.min_def];split<;>omega) hsrc (by rw[hcrl,hz4];omega) h1r
        rw[←hc9] at h
        rw[h]
        have:Nat.min (m+1 - i) (m+1 - (i+1))=m - i:=by simp only [Nat.min_def];split<;>omega
        rw[this]
     have hcut2:∀W':World,(Instr.slice 32 (.slice (some ⟨g,0,none⟩) (m+1) cap) (some (.int .i64 (i:Int))) none none).run prog W'= .ok (.slice (some ⟨g,i,none⟩) (m+1 - i) (cap - i)) W':=fun W'=>by
      have ht:=underlying32
      have hel:prog.elem 32=zep:=by simp [Program.elem,ht]
      have hu:prog.underlying 32=some (.slice (prog.elem 32)):=by rw[hel];exact ht
      obtain ⟨ifo,hi',h4⟩:=Option.map_eq_some_iff.1 (show (prog.info? zep).map (·.size)=some 1 from by kernel_rfl)
      rw[run_slice_l W' 32 (some ⟨g,0,none⟩) (m+1) cap hu .i64 (i:Int) (by omega) (by omega),hel]
      have hci:¬cap=i:=by omega
      have ha:(⟨g,0,none⟩:Addr).add i=⟨g,i,none⟩:=zfE g i
      simp [sizeOf,typeInfo,hi',sliced,Result.andThen,h4,hci,ha]
     have hw1:IntKind.i64.wrap ((i:Int)+1)=(i:Int)+1:=by rw[IntKind.wrap_i64];omega
     have HCP:=Lib.hid hcp;have HGD:=Lib.hid hgd
     clear hcp hgd hz4
     have HE6:Hid (Ext w w5.drew):=Lib.hid HE5.out.drew
     have HEQ:Hid (w5.drew.heap=w5.heap):=Lib.hid rfl
     refine ZF [7] (by kernel_rfl) ?_
     generalize w5.drew=w6 at HCP HGD HE6 HEQ ⊢
     refine ZA (listed':=lst 8 [0,1,2,3,4,5,6]) [0,1,2,3,4,5,6] 1 (by kernel_rfl) (fun _ _ _ _ h=>h) (by kernel_rfl) rfl (by kernel_rfl) ?_
     repeat (refine zV rfl ?_;go_big_quiet_step (fail);refine wpQuiet_nil ?_)
     refine Zf ?_
     refine zca (n:=0) (i:=7) (listed':=lst 8 [0,1,2,3,4,5,6,7]) (by kernel_rfl) rfl rfl rfl (by kernel_rfl) ?_
     refine zb6 (HCP.out _) rfl rfl rfl rfl ?_
     refine zhU ?_
     simp only [Act.put,List.setIfInBounds_toArray,List.set_cons_zero,List.set_cons_succ]
     refine zcf (by kernel_rfl) ?_
     have HG9:Hid ((w6.setRow g c9).heap[g]? =some (.cells c9 zep (0,0))):=Lib.hid (setRow_heap _ g cur c9 _ _ HGD.out)
     have HO9:Hid (∀x,x≠g→(w6.setRow g c9).heap[x]? =w6.heap[x]?):=Lib.hid fun x hx=>setRow_other w6 g x c9 hx
     have HS9:Hid ((w6.setRow g c9).heap.size=w6.heap.size):=Lib.hid (by simp [World.setRow])
     have HE9:Hid (Ext w (w6.setRow g c9)):=Lib.hid ⟨HE6.out.os,HE6.out.tape,HE6.out.output,by rw[HS9.out];exact HE6.out.size,fun x hx=>(HO9.out x (by omega)).trans (HE6.out.block x hx)⟩
     clear HCP
     generalize w6.setRow g c9=w9 at HG9 HO9 HS9 HE9 ⊢
     have HCL:Hid (Calls prog 95 #[.slice A' (q.length+1) c'] w9 fun en w10=>∃A2 c2,en= .returned (.slice A2 (q.length+1) c2)∧RepD prog w10 (fun b=>S b∨w9.heap.size≤b) (z9 (cP (e::q))) (.slice A2 (q.length+1) c2)∧Ext w9 w10):=by
      refine Lib.hid (((zmy _ (Hg.out _ hpm).1).2 w9 S [_] (fun b hb=>Nat.lt_of_lt_of_le (HSd.out b hb) HE9.out.size) (.cons (Hrep.out.ext HE9.out) .nil)).mono ?_)
      rintro en w10 ⟨v,r,rfl,rfl,hv,hE10⟩
      obtain ⟨A2,c2,e2,_⟩:=RepD.sl_iff.1 (show RepD prog w10 (fun b=>S b∨w9.heap.size≤b) (z9 (cP (e::q))) v from hv)
      simp only [List.length_map,List.length_cons] at e2
      subst e2
      exact ⟨A2,c2,rfl,hv,hE10⟩
     go_wp2_with fail
     refine HCL.out.mono ?_
     rintro en w10 ⟨A2,c2,rfl,hr10,hE10⟩
     have HR10:=Lib.hid hr10;have HE10:=Lib.hid hE10
     have HG10:Hid (w10.heap[g]? =some (.cells c9 zep (0,0))):=Lib.hid (hE10.heap HG9.out)
     clear hr10 hE10 HCL
     obtain ⟨x9,hx9⟩:∃x,c9[i]? =some x:=⟨_,Array.getElem?_eq_getElem (by omega)⟩
     have q1:=zh HG10.out hx9
     have hfz:∀o,w10.frozen? ⟨g,o,none⟩=false:=fun o=>by simp [World.frozen?,HG10.out]
     have hi1:i<m+1:=by omega
     have hm9:m+1≤9223372036854775807:=by omega
     have HK:Hid (Ext w (w10.setCell ⟨g,i,none⟩ (.slice A2 (q.length+1) c2))∧BW S w (w10.setCell ⟨g,i,none⟩ (.slice A2 (q.length+1) c2)) (.slice (some ⟨g,0,none⟩) (m+1) cap) (mkW (l.take (k+1)))):=by
      have hsm:=ZT w10 g i (.slice A2 (q.length+1) c2)
      have hE11:Ext w (w10.setCell ⟨g,i,none⟩ (.slice A2 (q.length+1) c2)):=by
       have e0:=HE9.out.trans HE10.out
       exact ⟨e0.os,e0.tape,e0.output,by simpa [World.setCell] using e0.size,fun x hx=>(hsm x (by omega)).trans (e0.block x hx)⟩
      refine ⟨hE11,?_⟩
      have hnx:mkW (l.take (k+1))=zS i (e::q) W:=by rw[Htk.out,←HW.out,Hi.out];simp [zfy,HFD.out]
      have hw6:w6.heap.size=w5.heap.size:=by rw[HEQ.out]
      have hg5:g<w5.heap.size:=(Array.getElem?_eq_some_iff.1 HZ1.out).1
      have stay:∀x,x≠g→x<w5.heap.size→(w10.setCell ⟨g,i,none⟩ (.slice A2 (q.length+1) c2)).heap[x]? =w5.heap[x]? :=fun x hx hl=>by
       refine (hsm x hx).trans ((HE10.out.block x (by rw[HS9.out,hw6];exact hl)).trans ((HO9.out x hx).trans ?_))
       rw[HEQ.out]
      rw[hnx]
      show Build _ _ _ _ _ _ _ (zga (zS i (e::q) W))
      have er:zga (zS i (e::q) W)=zS i [z9 (cP (e::q))] (zga W):=by simp only [zga,ze0]
      rw[er]
      have hel0:=HEL.out.take m
      have et:(zga W++ [[z9 []]]).take m=zga W:=List.take_left' (by rw[List.length_map,←Hm.out])
      rw[et,Nat.mul_one] at hel0
      have hel1:Elems (RDs prog (w10.setCell ⟨g,i,none⟩ (.slice A2 (q.length+1) c2)) fun b=>(S b∨w.heap.size≤b)∧(Value.slice (some ⟨g,0,none⟩) (m+1) cap).ownBlock≠some b) 1 (zga W) (cs5.take m):=hel0.imp fun x cc r=>by
       have r2:=(zr _).lt r
       refine (zr _).frame r2 (fun b hb=>stay b (fun h=>hb.1.2 (by rw[h];rfl)) hb.2) fun b hb=>hb.1
      have hnew:RDs prog (w10.setCell ⟨g,i,none⟩ (.slice A2 (q.length+1) c2)) (fun b=>(S b∨w.heap.size≤b)∧(Value.slice (some ⟨g,0,none⟩) (m+1) cap).ownBlock≠some b) [z9 (cP (e::q))] [.slice A2 (q.length+1) c2]:=by
       refine .cons (HR10.out.frame (fun b hb=>hsm b fun h=>?_) fun b hb=>?_) .nil
       ·subst h
        rcases hb with hb|hb
        ·have:=HSd.out b hb;omega
        ·rw[HS9.out,hw6] at hb;omega
       ·have hne:g≠b:=fun h=>by
         subst h
         rcases hb with hb|hb
         ·have:=HSd.out g hb;omega
         ·rw[HS9.out,hw6] at hb;omega
        refine ⟨hb.imp id fun h=>Nat.le_trans HE9.out.size h,fun h=>hne ?_⟩
        injection h
      have hins:=Elems.ins hel1 i hnew rfl
      refine ⟨_,?_,fun x hx=>by
       have h:g=x:=by injection hx
       omega,hins⟩
      rw[ZV,List.length_map,←Hm.out]
      have hlen:((cs5.take m).take (i*1)++([Value.slice A2 (q.length+1) c2]++(cs5.take m).drop (i*1))).length=(m+1)*1:=by
       simp only [List.length_append,List.length_take,List.length_drop,hcl,List.length_cons,List.length_nil];omega
      refine ⟨hlen,.inr ⟨g,cap,c9.setIfInBounds i (.slice A2 (q.length+1) c2),rfl,Nat.zero_le _,zaz _ HG10.out,z2,z3,by simp [hc9s],?_⟩⟩
      have hcur:∀j,j<m+1→cur.toList[j]? =cs5[j]? :=fun j hj=>by rw[←HZ5.out,List.getElem?_take,if_pos hj]
      refine List.ext_getElem? fun j=>?_
      rw[List.getElem?_take,Nat.mul_one,Nat.mul_one]
      by_cases hj:j<m+1
      ·rw[if_pos hj,Array.getElem?_toList,Array.getElem?_setIfInBounds]
       by_cases hji:i=j
       ·subst hji
        rw[if_pos rfl,if_pos (by omega),List.getElem?_append_right (by simp only [List.length_take,hcl];omega)]
        have:i - ((cs5.take m).take i).length=0:=by simp only [List.length_take,hcl];omega
        rw[this];rfl
       ·rw[if_neg hji,hc9]
        simp only [List.getElem?_toArray]
        by_cases hlt':j<i
        ·rw[List.append_assoc,List.getElem?_append_left (by rw[List.length_take,hcsz];omega),List.getElem?_take,if_pos (by omega),hcur j hj,List.getElem?_append_left (by simp only [List.length_take,hcl];omega),List.getElem?_take,if_pos hlt',List.getElem?_take,if_pos (by omega)]
        ·have l1:(cur.toList.take (i+1)).length=i+1:=by rw[List.length_take,hcsz];omega
         rw[List.append_assoc,List.getElem?_append_right (by rw[l1];omega),l1,List.getElem?_append_left (by rw[hcrl];omega),hcr,List.getElem?_take,if_pos (by omega),List.getElem?_drop]
         have l2:((cs5.take m).take i).length=i:=by simp only [List.length_take,hcl];omega
         rw[List.getElem?_append_right (by rw[l2];omega),l2]
         obtain ⟨d,hd⟩:∃d,j - i=d+1:=⟨j - i - 1,by omega⟩
         rw[hd]
         simp only [List.cons_append,List.nil_append,List.getElem?_cons_succ]
         rw[List.getElem?_drop,List.getElem?_take,if_pos (by omega)]
         congr 1;omega
      ·rw[if_neg hj,List.getElem?_eq_none]
       rw[Nat.mul_one,Nat.mul_one] at hlen
       rw[hlen];omega
     go_wp2_with fail
     go_roundw
     case rel=>exact ⟨k+1,by omega,by go_num,HK⟩
     case measure=>simp [intOf];omega
  ·have hkn:k=n:=by omega
   subst hkn
   obtain ⟨hE,hB⟩:=hI.out
   have e:l.take k=l:=List.take_of_length_le (by rw[Hn.out];exact Nat.le_refl _)
   rw[e] at hB
   have hlenW:(mkW l).length≤k:=by have:=zho k l;rw[e] at this;exact this
   have hd:=BW.dat2 hB (by omega)
   have HD:=Lib.hid hd
   clear hd hB hI
   go_wp2
   go_ret
   exact ⟨_,rfl,HD.out,hE⟩
theorem ztZ (l:List (List EV))(hl:l.length≤3000000000000)(hg:∀p∈l,PthS p∧∀e∈p,GoodE e):ACalls prog 35 [.c (.d (zU l))] (fun r=>r= .c (.d (zU ((mkW l).map cP)))):=by
 refine ⟨⟨_,func35,by kernel_rfl,rfl⟩,fun w S vs hS ha=>?_⟩
 obtain ⟨v,vs,rfl,h1,ha⟩:=ha.inv
 cases ha.inv0
 refine (zpR l w S v h1 hS hl hg).mono ?_
 rintro en w' ⟨u,rfl,hr,hE⟩
 exact ⟨u,_,rfl,rfl,hr,hE⟩
theorem ziL {l:List (List EV)}(h:okD prog (zU l)):l.length*24≤140737488351232∧∀p∈l,PthS p∧∀e∈p,FitsE e:=by
 obtain ⟨h1,h2⟩:=zgr h
 simp at h1
 refine ⟨by omega,fun p hp=>?_⟩
 have k:=ztO ((h2 [z9 p] (List.mem_map.2 ⟨p,hp,rfl⟩)).2 (z9 p) (by simp))
 exact ⟨⟨k.1,fun e he=>⟨(k.2 e he).1,(k.2 e he).2.2.1⟩⟩,fun e he=>(k.2 e he).2.2.2⟩
theorem zsj (l:List (List EV)):(mkW l).length≤l.length:=by
 have:=zho l.length l
 rwa[List.take_of_length_le (Nat.le_refl _)] at this
mutual
def PS.full:PS→Prop
 | .mk _ ks=>ks.full
def PK.full:PK→Prop
 | .nil=>True
 | .cons _ s r=>s.size≠0∧s.full∧r.full
end
theorem PK.full_all:∀{k:PK},k.full→∀s∈k.ss,s.size≠0∧s.full
 | .nil,_,s,h=>by simp [PK.ss] at h
 | .cons e t r,hf,s,h=>by
  simp only [PK.full] at hf
  simp only [PK.ss] at h
  rcases List.mem_cons.1 h with h|h
  ·rw[h];exact ⟨hf.1,hf.2.1⟩
  ·exact PK.full_all hf.2.2 s h
theorem zkk {e:EV}{t:PS}(h1:t.size≠0)(h2:t.full):∀{k:PK},k.full→(zbA e t k).full
 | .nil,_=>by simp only [zbA,PK.full];exact ⟨h1,h2,trivial⟩
 | .cons x s r,h=>by
  simp only [PK.full] at h
  simp only [zbA]
  split
  ·simp only [PK.full];exact ⟨h.1,h.2.1,zkk h1 h2 h.2.2⟩
  ·split
   ·simp only [PK.full];exact ⟨h1,h2,h.2.2⟩
   ·simp only [PK.full];exact ⟨h1,h2,h⟩
theorem zkl {e:EV}:∀{k:PK},k.full→(ZW e k).full
 | .nil,_=>by simp only [ZW,PS.empty,PS.full,PK.full]
 | .cons x s r,h=>by
  simp only [PK.full] at h
  simp only [ZW]
  split
  ·exact zkl h.2.2
  ·split
   ·exact h.2.1
   ·simp only [PS.empty,PS.full,PK.full]
theorem zoA {e:EV}:∀{k:PK},(ZW e k).size≤k.size
 | .nil=>by simp [ZW,PS.empty,PS.size,PK.size]
 | .cons x s r=>by
  have:=zoA (e:=e) (k:=r)
  simp only [ZW,PK.size]
  split
  ·omega
  ·split
   ·omega
   ·simp [PS.empty,PS.size,PK.size]
theorem ziM:∀(q:List EV) {s:PS},s.has q=true→s.size≠0
 | [],s,h=>by simp [PS.has] at h
 | [e],.mk ms ks,h=>by
  simp only [PS.has,zf5] at h
  obtain ⟨x,hx,_⟩:=h
  have:=List.length_pos_of_mem hx
  simp only [PS.size];omega
 |e::f::p,.mk ms ks,h=>by
  simp only [PS.has] at h
  have h1:=ziM (f::p) h
  have h2:=zoA (e:=e) (k:=ks)
  simp only [PS.size];omega
theorem zmz {N:Nat}:∀(p:List EV) {s:PS},OkS N s→s.full→(∀e∈p,GoodE e)→(s.ins p).full
 | [],s,_,h,_=>by rw[ze1];exact h
 | [e],.mk ms ks,_,h,_=>by simp only [PS.ins,PS.full] at h ⊢;exact h
 |e::f::p,.mk ms ks,ok,h,hp=>by
  simp only [OkS] at ok
  simp only [PS.full] at h
  have hp':∀x∈f::p,GoodE x:=fun x hx=>hp x (List.mem_cons_of_mem _ hx)
  have okk:=zef e ok.2.2.2.2.2.2
  simp only [PS.ins,PS.full]
  refine zkk (ziM (f::p) ((PS.ins_has (f::p) (f::p) okk hp' (fun x hx=>(hp' x hx).o) (by simp) (by simp)).2 (.inl (zdL.refl fun x hx=>(hp' x hx).o)))) (zmz (f::p) okk (zkl h) hp') h
theorem zmA:∀(n:Nat) (l:List (List EV)),l.length=n→(∀p∈l,∀e∈p,GoodE e)→(mkP l).full
 |0,l,h,_=>by cases l with|nil=>simp [PS.empty,PS.full,PK.full]|cons _ _=>simp at h
 |n+1,l,h,hg=>by
  obtain ⟨m,p,rfl⟩:∃m p,l=m++ [p]:=⟨l.dropLast,l.getLast (by intro h0;rw[h0] at h;simp at h),(List.dropLast_concat_getLast _).symm⟩
  have hm:∀q∈m,∀e∈q,GoodE e:=fun q hq=>hg q (by simp [hq])
  rw[zdJ]
  exact zmz p (zfw _ m rfl hm) (zmA n m (by simpa using h) hm) (hg p (by simp))
theorem zmB {N:Nat}:∀s:PS,OkS N s→s.full→s.size≠0→∃q:List EV,q≠ []∧(∀e∈q,GoodE e)∧s.has q=true:=
 zgG fun ms ks ih ok hf hs=>by
  simp only [OkS] at ok
  simp only [PS.full] at hf
  cases ms with
  |cons x ms=>
   refine ⟨[x],by simp,fun e he=>?_,?_⟩
   ·simp at he;subst he;exact ok.1 e (by simp)
   ·simp only [PS.has,zf5]
    exact ⟨x,by simp,zo.refl (ok.1 x (by simp)).o⟩
  |nil=>
   cases ks with
   |nil=>simp [PS.size,PK.size] at hs
   |cons e s r=>
    simp only [PK.full] at hf
    simp only [OkK] at ok
    obtain ⟨q,h1,h2,h3⟩:=ih s (by simp [PK.ss]) ok.2.2.2.2.2.2.1 hf.2.1 hf.1
    have he:GoodE e:=ok.2.2.2.1 e (by simp [PK.es])
    refine ⟨e::q,by simp,fun x hx=>?_,?_⟩
    ·rcases List.mem_cons.1 hx with rfl|hx
     ·exact he
     ·exact h2 x hx
    ·obtain ⟨f,p,rfl⟩:∃f p,q=f::p:=by cases q with|nil=>exact absurd rfl h1|cons f p=>exact ⟨f,p,rfl⟩
     have h0:=zo.refl he.o
     simp only [PS.has,ZW]
     rw[if_neg (by omega),if_pos h0];exact h3
@[simp ↓] theorem zyO {σ:St}{d:Option Tmp}{T:TypeId}{n:Nat}{xs:Array (Nat×Operand)}{ty:TypeId}{pos:String}{af:Array Edge}{g:Option (Nat×Bool)}:zhb σ ⟨d,.buildSlice T n xs,ty,pos,af,g⟩=none:=_root_.id rfl
theorem zK {P:Program}{U:TypeId}{d:TypeDesc}(hu:P.underlying U=some d)(hd:(match d with| .interface _=>false|_=>true)=true)(v:Value)(x:TypeId)(w:World):
  (Instr.typeAssert (.iface U v) x U true).run P w= .ok (.tuple #[v,.bool true]) w:=by
 unfold Instr.typeAssert
 simp only [Sem.run_bind,run_underlying hu,Result.andThen_ok]
 cases d<;>simp_all
theorem zD {P:Program}{U:TypeId}{d:TypeDesc}(hu:P.underlying U=some d)(hd:(match d with| .interface _=>false|_=>true)=true)(v:Value)(x:TypeId)(w:World):
  (Instr.typeAssert (.iface U v) x U false).run P w= .ok v w:=by
 unfold Instr.typeAssert
 simp only [Sem.run_bind,run_underlying hu,Result.andThen_ok]
 cases d<;>simp_all
theorem zE {P:Program}{U:TypeId}{d:TypeDesc}{z:Value}(hu:P.underlying U=some d)(hd:(match d with| .interface _=>false|_=>true)=true)(hz:(P.info? U).map (·.zero)=some (some z)){t:TypeId}(ht:t≠U)(v:Value)(x:TypeId)(w:World):
  (Instr.typeAssert (.iface t v) x U true).run P w= .ok (.tuple #[z,.bool false]) w:=by
 obtain ⟨i,hi,hz'⟩:=Option.map_eq_some_iff.1 hz
 unfold Instr.typeAssert
 simp only [Sem.run_bind,run_underlying hu,Result.andThen_ok]
 cases d<;>simp_all [zeroValue,typeInfo]
theorem zN {P:Program}{U:TypeId}{d:TypeDesc}{z:Value}(hu:P.underlying U=some d)(hd:(match d with| .interface _=>false|_=>true)=true)(hz:(P.info? U).map (·.zero)=some (some z))(x:TypeId)(w:World):
  (Instr.typeAssert .nilIface x U true).run P w= .ok (.tuple #[z,.bool false]) w:=by
 obtain ⟨i,hi,hz'⟩:=Option.map_eq_some_iff.1 hz
 unfold Instr.typeAssert
 simp only [Sem.run_bind,run_underlying hu,Result.andThen_ok]
 cases d<;>simp_all [zeroValue,typeInfo]
@[go_sem] theorem zt0 (v:Value)(x:TypeId)(w:World):(Instr.typeAssert (.iface 259 v) x 259 true).run prog w= .ok (.tuple #[v,.bool true]) w:=zK (d:=_) underlying259 rfl v x w
@[go_sem] theorem zut (v:Value)(x:TypeId)(w:World):(Instr.typeAssert (.iface 259 v) x 259 false).run prog w= .ok v w:=zD (d:=_) underlying259 rfl v x w
@[go_sem] theorem zsF (t:TypeId)(ht:(t==259)=false)(v:Value)(x:TypeId)(w:World):(Instr.typeAssert (.iface t v) x 259 true).run prog w= .ok (.tuple #[.slice none 0 0,.bool false]) w:=zE (d:=_) underlying259 rfl (by kernel_rfl) (by simpa using ht) v x w
@[go_sem] theorem zuu (x:TypeId)(w:World):(Instr.typeAssert .nilIface x 259 true).run prog w= .ok (.tuple #[.slice none 0 0,.bool false]) w:=zN (d:=_) underlying259 rfl (by kernel_rfl) x w
@[go_sem] theorem zuv (v:Value)(x:TypeId)(w:World):(Instr.typeAssert (.iface 276 v) x 276 true).run prog w= .ok (.tuple #[v,.bool true]) w:=zK (d:=_) underlying276 rfl v x w
@[go_sem] theorem zvF (v:Value)(x:TypeId)(w:World):(Instr.typeAssert (.iface 276 v) x 276 false).run prog w= .ok v w:=zD (d:=_) underlying276 rfl v x w
@[go_sem] theorem zt1 (t:TypeId)(ht:(t==276)=false)(v:Value)(x:TypeId)(w:World):(Instr.typeAssert (.iface t v) x 276 true).run prog w= .ok (.tuple #[.map none,.bool false]) w:=zE (d:=_) underlying276 rfl (by kernel_rfl) (by simpa using ht) v x w
@[go_sem] theorem zvG (x:TypeId)(w:World):(Instr.typeAssert .nilIface x 276 true).run prog w= .ok (.tuple #[.map none,.bool false]) w:=zN (d:=_) underlying276 rfl (by kernel_rfl) x w
@[go_sem] theorem zuw (v:Value)(x:TypeId)(w:World):(Instr.typeAssert (.iface 2 v) x 2 true).run prog w= .ok (.tuple #[v,.bool true]) w:=zK (d:=_) underlying2 rfl v x w
@[go_sem] theorem zvH (v:Value)(x:TypeId)(w:World):(Instr.typeAssert (.iface 2 v) x 2 false).run prog w= .ok v w:=zD (d:=_) underlying2 rfl v x w
@[go_sem] theorem zt2 (t:TypeId)(ht:(t==2)=false)(v:Value)(x:TypeId)(w:World):(Instr.typeAssert (.iface t v) x 2 true).run prog w= .ok (.tuple #[.int .i64 0,.bool false]) w:=zE (d:=_) underlying2 rfl (by kernel_rfl) (by simpa using ht) v x w
@[go_sem] theorem zvI (x:TypeId)(w:World):(Instr.typeAssert .nilIface x 2 true).run prog w= .ok (.tuple #[.int .i64 0,.bool false]) w:=zN (d:=_) underlying2 rfl (by kernel_rfl) x w
@[go_sem] theorem zux (v:Value)(x:TypeId)(w:World):(Instr.typeAssert (.iface 21 v) x 21 true).run prog w= .ok (.tuple #[v,.bool true]) w:=zK (d:=_) underlying21 rfl v x w
@[go_sem] theorem zvJ (v:Value)(x:TypeId)(w:World):(Instr.typeAssert (.iface 21 v) x 21 false).run prog w= .ok v w:=zD (d:=_) underlying21 rfl v x w
@[go_sem] theorem zt3 (t:TypeId)(ht:(t==21)=false)(v:Value)(x:TypeId)(w:World):(Instr.typeAssert (.iface t v) x 21 true).run prog w= .ok (.tuple #[.int .i32 0,.bool false]) w:=zE (d:=_) underlying21 rfl (by kernel_rfl) (by simpa using ht) v x w
@[go_sem] theorem zvK (x:TypeId)(w:World):(Instr.typeAssert .nilIface x 21 true).run prog w= .ok (.tuple #[.int .i32 0,.bool false]) w:=zN (d:=_) underlying21 rfl (by kernel_rfl) x w
@[go_sem] theorem zuy (v:Value)(x:TypeId)(w:World):(Instr.typeAssert (.iface 25 v) x 25 true).run prog w= .ok (.tuple #[v,.bool true]) w:=zK (d:=_) underlying25 rfl v x w
@[go_sem] theorem zvL (v:Value)(x:TypeId)(w:World):(Instr.typeAssert (.iface 25 v) x 25 false).run prog w= .ok v w:=zD (d:=_) underlying25 rfl v x w
@[go_sem] theorem zt4 (t:TypeId)(ht:(t==25)=false)(v:Value)(x:TypeId)(w:World):(Instr.typeAssert (.iface t v) x 25 true).run prog w= .ok (.tuple #[.float .f64 0,.bool false]) w:=zE (d:=_) underlying25 rfl (by kernel_rfl) (by simpa using ht) v x w
@[go_sem] theorem zvM (x:TypeId)(w:World):(Instr.typeAssert .nilIface x 25 true).run prog w= .ok (.tuple #[.float .f64 0,.bool false]) w:=zN (d:=_) underlying25 rfl (by kernel_rfl) x w
@[go_sem] theorem zuz (v:Value)(x:TypeId)(w:World):(Instr.typeAssert (.iface 3 v) x 3 true).run prog w= .ok (.tuple #[v,.bool true]) w:=zK (d:=_) underlying3 rfl v x w
@[go_sem] theorem zvN (v:Value)(x:TypeId)(w:World):(Instr.typeAssert (.iface 3 v) x 3 false).run prog w= .ok v w:=zD (d:=_) underlying3 rfl v x w
@[go_sem] theorem zt5 (t:TypeId)(ht:(t==3)=false)(v:Value)(x:TypeId)(w:World):(Instr.typeAssert (.iface t v) x 3 true).run prog w= .ok (.tuple #[.int .i64 0,.bool false]) w:=zE (d:=_) underlying3 rfl (by kernel_rfl) (by simpa using ht) v x w
@[go_sem] theorem zvO (x:TypeId)(w:World):(Instr.typeAssert .nilIface x 3 true).run prog w= .ok (.tuple #[.int .i64 0,.bool false]) w:=zN (d:=_) underlying3 rfl (by kernel_rfl) x w
@[go_sem] theorem zt6 (v:Value)(x:TypeId)(w:World):(Instr.typeAssert (.iface 4 v) x 4 true).run prog w= .ok (.tuple #[v,.bool true]) w:=zK (d:=_) underlying4 rfl v x w
@[go_sem] theorem zuA (v:Value)(x:TypeId)(w:World):(Instr.typeAssert (.iface 4 v) x 4 false).run prog w= .ok v w:=zD (d:=_) underlying4 rfl v x w
@[go_sem] theorem zsG (t:TypeId)(ht:(t==4)=false)(v:Value)(x:TypeId)(w:World):(Instr.typeAssert (.iface t v) x 4 true).run prog w= .ok (.tuple #[.bool false,.bool false]) w:=zE (d:=_) underlying4 rfl (by kernel_rfl) (by simpa using ht) v x w
@[go_sem] theorem zuB (x:TypeId)(w:World):(Instr.typeAssert .nilIface x 4 true).run prog w= .ok (.tuple #[.bool false,.bool false]) w:=zN (d:=_) underlying4 rfl (by kernel_rfl) x w
@[go_sem] theorem zvP (v:Value)(x:TypeId)(w:World):(Instr.typeAssert (.iface 5 v) x 5 true).run prog w= .ok (.tuple #[v,.bool true]) w:=zK (d:=_) underlying5 rfl v x w
@[go_sem] theorem zwh (v:Value)(x:TypeId)(w:World):(Instr.typeAssert (.iface 5 v) x 5 false).run prog w= .ok v w:=zD (d:=_) underlying5 rfl v x w
@[go_sem] theorem zuC (t:TypeId)(ht:(t==5)=false)(v:Value)(x:TypeId)(w:World):(Instr.typeAssert (.iface t v) x 5 true).run prog w= .ok (.tuple #[.int .u8 0,.bool false]) w:=zE (d:=_) underlying5 rfl (by kernel_rfl) (by simpa using ht) v x w
@[go_sem] theorem zwi (x:TypeId)(w:World):(Instr.typeAssert .nilIface x 5 true).run prog w= .ok (.tuple #[.int .u8 0,.bool false]) w:=zN (d:=_) underlying5 rfl (by kernel_rfl) x w
@[go_sem] theorem zuD (v:Value)(x:TypeId)(w:World):(Instr.typeAssert (.iface 9 v) x 9 true).run prog w= .ok (.tuple #[v,.bool true]) w:=zK (d:=_) underlying9 rfl v x w
@[go_sem] theorem zvQ (v:Value)(x:TypeId)(w:World):(Instr.typeAssert (.iface 9 v) x 9 false).run prog w= .ok v w:=zD (d:=_) underlying9 rfl v x w
@[go_sem] theorem zt7 (t:TypeId)(ht:(t==9)=false)(v:Value)(x:TypeId)(w:World):(Instr.typeAssert (.iface t v) x 9 true).run prog w= .ok (.tuple #[.string ⟨#[]⟩,.bool false]) w:=zE (d:=_) underlying9 rfl (by kernel_rfl) (by simpa using ht) v x w
@[go_sem] theorem zvR (x:TypeId)(w:World):(Instr.typeAssert .nilIface x 9 true).run prog w= .ok (.tuple #[.string ⟨#[]⟩,.bool false]) w:=zN (d:=_) underlying9 rfl (by kernel_rfl) x w
@[go_sem] theorem zuE (v:Value)(x:TypeId)(w:World):(Instr.typeAssert (.iface 385 v) x 385 true).run prog w= .ok (.tuple #[v,.bool true]) w:=zK (d:=_) underlying385 rfl v x w
@[go_sem] theorem zvS (v:Value)(x:TypeId)(w:World):(Instr.typeAssert (.iface 385 v) x 385 false).run prog w= .ok v w:=zD (d:=_) underlying385 rfl v x w
@[go_sem] theorem zt8 (t:TypeId)(ht:(t==385)=false)(v:Value)(x:TypeId)(w:World):(Instr.typeAssert (.iface t v) x 385 true).run prog w= .ok (.tuple #[.int .u32 0,.bool false]) w:=zE (d:=_) underlying385 rfl (by kernel_rfl) (by simpa using ht) v x w
@[go_sem] theorem zvT (x:TypeId)(w:World):(Instr.typeAssert .nilIface x 385 true).run prog w= .ok (.tuple #[.int .u32 0,.bool false]) w:=zN (d:=_) underlying385 rfl (by kernel_rfl) x w
@[go_sem] theorem zuF (v:Value)(x:TypeId)(w:World):(Instr.typeAssert (.iface 431 v) x 431 true).run prog w= .ok (.tuple #[v,.bool true]) w:=zK (d:=_) underlying431 rfl v x w
@[go_sem] theorem zvU (v:Value)(x:TypeId)(w:World):(Instr.typeAssert (.iface 431 v) x 431 false).run prog w= .ok v w:=zD (d:=_) underlying431 rfl v x w
@[go_sem] theorem zt9 (t:TypeId)(ht:(t==431)=false)(v:Value)(x:TypeId)(w:World):(Instr.typeAssert (.iface t v) x 431 true).run prog w= .ok (.tuple #[.float .f32 0,.bool false]) w:=zE (d:=_) underlying431 rfl (by kernel_rfl) (by simpa using ht) v x w
@[go_sem] theorem zvV (x:TypeId)(w:World):(Instr.typeAssert .nilIface x 431 true).run prog w= .ok (.tuple #[.float .f32 0,.bool false]) w:=zN (d:=_) underlying431 rfl (by kernel_rfl) x w
@[go_sem] theorem zvW (v:Value)(x:TypeId)(w:World):(Instr.typeAssert (.iface 433 v) x 433 true).run prog w= .ok (.tuple #[v,.bool true]) w:=zK (d:=_) underlying433 rfl v x w
@[go_sem] theorem zwj (v:Value)(x:TypeId)(w:World):(Instr.typeAssert (.iface 433 v) x 433 false).run prog w= .ok v w:=zD (d:=_) underlying433 rfl v x w
@[go_sem] theorem zuG (t:TypeId)(ht:(t==433)=false)(v:Value)(x:TypeId)(w:World):(Instr.typeAssert (.iface t v) x 433 true).run prog w= .ok (.tuple #[.int .i8 0,.bool false]) w:=zE (d:=_) underlying433 rfl (by kernel_rfl) (by simpa using ht) v x w
@[go_sem] theorem zwk (x:TypeId)(w:World):(Instr.typeAssert .nilIface x 433 true).run prog w= .ok (.tuple #[.int .i8 0,.bool false]) w:=zN (d:=_) underlying433 rfl (by kernel_rfl) x w
@[go_sem] theorem zuH (v:Value)(x:TypeId)(w:World):(Instr.typeAssert (.iface 435 v) x 435 true).run prog w= .ok (.tuple #[v,.bool true]) w:=zK (d:=_) underlying435 rfl v x w
@[go_sem] theorem zvX (v:Value)(x:TypeId)(w:World):(Instr.typeAssert (.iface 435 v) x 435 false).run prog w= .ok v w:=zD (d:=_) underlying435 rfl v x w
@[go_sem] theorem zua (t:TypeId)(ht:(t==435)=false)(v:Value)(x:TypeId)(w:World):(Instr.typeAssert (.iface t v) x 435 true).run prog w= .ok (.tuple #[.int .i16 0,.bool false]) w:=zE (d:=_) underlying435 rfl (by kernel_rfl) (by simpa using ht) v x w
@[go_sem] theorem zvY (x:TypeId)(w:World):(Instr.typeAssert .nilIface x 435 true).run prog w= .ok (.tuple #[.int .i16 0,.bool false]) w:=zN (d:=_) underlying435 rfl (by kernel_rfl) x w
@[go_sem] theorem zub (v:Value)(x:TypeId)(w:World):(Instr.typeAssert (.iface 317 v) x 317 true).run prog w= .ok (.tuple #[v,.bool true]) w:=zK (d:=_) underlying317 rfl v x w
@[go_sem] theorem zuI (v:Value)(x:TypeId)(w:World):(Instr.typeAssert (.iface 317 v) x 317 false).run prog w= .ok v w:=zD (d:=_) underlying317 rfl v x w
@[go_sem] theorem zsH (t:TypeId)(ht:(t==317)=false)(v:Value)(x:TypeId)(w:World):(Instr.typeAssert (.iface t v) x 317 true).run prog w= .ok (.tuple #[.int .u64 0,.bool false]) w:=zE (d:=_) underlying317 rfl (by kernel_rfl) (by simpa using ht) v x w
@[go_sem] theorem zuJ (x:TypeId)(w:World):(Instr.typeAssert .nilIface x 317 true).run prog w= .ok (.tuple #[.int .u64 0,.bool false]) w:=zN (d:=_) underlying317 rfl (by kernel_rfl) x w
@[go_sem] theorem zuK (v:Value)(x:TypeId)(w:World):(Instr.typeAssert (.iface 440 v) x 440 true).run prog w= .ok (.tuple #[v,.bool true]) w:=zK (d:=_) underlying440 rfl v x w
@[go_sem] theorem zvZ (v:Value)(x:TypeId)(w:World):(Instr.typeAssert (.iface 440 v) x 440 false).run prog w= .ok v w:=zD (d:=_) underlying440 rfl v x w
@[go_sem] theorem zuc (t:TypeId)(ht:(t==440)=false)(v:Value)(x:TypeId)(w:World):(Instr.typeAssert (.iface t v) x 440 true).run prog w= .ok (.tuple #[.int .u16 0,.bool false]) w:=zE (d:=_) underlying440 rfl (by kernel_rfl) (by simpa using ht) v x w
@[go_sem] theorem zv0 (x:TypeId)(w:World):(Instr.typeAssert .nilIface x 440 true).run prog w= .ok (.tuple #[.int .u16 0,.bool false]) w:=zN (d:=_) underlying440 rfl (by kernel_rfl) x w
theorem AProc.frz {P:Program}{f:FuncId}{args args':List Av}{own own':List (Nat×Ow)}{R:Av→List (Nat×Ow)→Prop}(F:List Nat)(h:AProc P f args' own' R)(ho:(St.mk [] own).frz P F=⟨[],own'⟩)(ha:args.map (zcO P F (zd own))=args'):AProc P f args own R:=
 ⟨h.1,fun w E β vs s hv=>by
  have k:=s.frzAll F
  have k2:=k.2
  rw[ho] at k k2
  refine h.2 w E β vs k.1 ?_
  subst ha
  refine All2.of (by rw[List.length_map];exact hv.length) fun i x v hx hy=>?_
  rw[List.getElem?_map] at hx
  obtain ⟨y,hy',rfl⟩:=Option.map_eq_some_iff.1 hx
  obtain ⟨u,hu,hr⟩:=hv.at hy'
  rw[hy] at hu;cases hu
  exact k2 y v hr⟩
theorem AProc.frzr {P:Program}{f:FuncId}{args:List Av}{own o0 o1:List (Nat×Ow)}{r0 r1:Av}(F:List Nat)(h:AProc P f args own fun r own'=>r=r0∧own'=o0)(ho:(St.mk [] o0).frz P F=⟨[],o1⟩)(hr:zcO P F (zd o0) r0=r1):
  AProc P f args own fun r own'=>r=r1∧own'=o1:=
 ⟨h.1,fun w E β vs s hv=>(h.2 w E β vs s hv).mono fun e w' ⟨v,r,β',own',h1,⟨h2,h3⟩,s',h4⟩=>by
  subst h2;subst h3
  have k:=s'.frzAll F
  have k2:=k.2
  rw[ho] at k k2
  refine ⟨v,r1,β',o1,h1,⟨rfl,rfl⟩,k.1,?_⟩
  have:=k2 r v h4
  rw[←hr]
  exact this⟩
abbrev tEl:TypeId:=29
theorem znO (n:Nat)(p:List LE)(hf:∀q∈p,ZR q∧zeh q)(hl:p.length*168≤140737488351232):
  AProc prog 147 [.c (.gs 1000000000 n)] [(1000000000,.arr n tPE (p.map leD))] (fun r own'=>r= .c (.gs 6 p.length)∧own'= [(6,.arr p.length tEl (p.map (evD∘zcl))),(1000000000,.arr n tPE (p.map leD))]):=by
 have b1:p.length≤9223372036854775807:=by omega
 refine zaj [] func147 (by kernel_rfl) rfl ntmps147 results147 (Nat.le_of_ble_eq_true (by kernel_rfl)) ?_;intro hok w0 S0
 (repeat' (first|(with_reducible first|refine zj (fun _=>?_) (fun _=>?_)|refine zi (fun _=>?_) (fun _=>?_)|refine zk zb (by kernel_rfl) ?_|exact za rfl)|(simp -dsimp [b1])));(all_goals try with_reducible refine za ?_)
 refine zF (fun i:Nat=>⟨[(3,.c (.gs 6 i)),(7,.c (.gs 1000000000 n)),(8,aI p.length),(9,aI i)],[(6,.arr i tEl ((p.map (evD∘zcl)).take i)),(1000000000,.arr n tPE (p.map leD))]⟩) (fun i=>i≤p.length) (fun i=>p.length - i) 0 ?_ (Nat.zero_le _) ?_
 ·exact Weak.same (by simp -dsimp) (by simp -dsimp) (by first|rfl|(simp [zg,Av.ids,Ow.ids,Cl.ids,Go.Smd.keys];done))
 ·rintro i hi K hK
  by_cases hlt:i<p.length
  ·have hw:IntKind.wrap .i64 ((i:Int)+1)=((i+1:Nat):Int):=by rw[zq]<;>omega
   have hb:(min i p.length+1)*168≤140737488351232:=by omega
   have h1:(p.map (evD∘zcl)).take (i+1)=(p.map (evD∘zcl)).take i++ [evD (zcl p[i])]:=by
    rw[List.take_succ_eq_append_getElem (by simpa using hlt)];simp
   have hq:=hf _ (List.getElem_mem hlt)
   have hc:=znJ p[i] hq.1 hq.2
   (repeat' (first|(with_reducible first|refine zj (fun _=>?_) (fun _=>?_)|refine zi (fun _=>?_) (fun _=>?_)|refine zl (hc) (by first|rfl|(simp -dsimp [b1,hlt,hw,hb,zc];done)) ?_|refine zk zb (by kernel_rfl) ?_|exact za rfl)|(simp -dsimp [b1,hlt,hw,hb,zc])));(all_goals try with_reducible refine za ?_)
   refine hK _ (i+1) ?_ (by omega) (by omega)
   rw[h1]
   exact Weak.same (by simp -dsimp) (by simp -dsimp) (by first|rfl|(simp [zg,Av.ids,Ow.ids,Cl.ids,Go.Smd.keys];done))
  ·(repeat' (first|(with_reducible first|refine zj (fun _=>?_) (fun _=>?_)|refine zi (fun _=>?_) (fun _=>?_)|refine zk zb (by kernel_rfl) ?_|exact za rfl)|(simp -dsimp [hlt])));(all_goals try with_reducible refine za ?_)
   rw[List.take_of_length_le (by simp;omega)]
   have:i=p.length:=by omega
   exact ⟨by rw[this],by rw[this]⟩
theorem znP (n:Nat)(p:List LE)(hf:∀q∈p,ZR q∧zeh q)(hl:p.length*168≤140737488351232):
  AProc prog 147 [.c (.gs 1000000000 n)] [(1000000000,.arr n tPE (p.map leD))] (fun r own'=>r= .c (.d (z9 (p.map zcl)))∧own'= [(1000000000,.arr n tPE (p.map leD))]):=
 (znO n p hf hl).frzr [6] rfl (by
  simp [zcO,zgg,zcN,ziW,zd,z9])
end Go.Smd
end
