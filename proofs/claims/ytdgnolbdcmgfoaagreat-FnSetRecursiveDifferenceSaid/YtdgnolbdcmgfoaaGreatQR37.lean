/- Part 37 of the proof: Jm Jn Fo Jo Jp Zs Assert Zn. -/
import Derived.Test.YtdgnolbdcmgfoaaGreatQR36
import Derived.Test.YtdgnolbdcmgfoaaGreatQR32
import Derived.Test.YtdgnolbdcmgfoaaGreatQR24
import Derived.Test.YtdgnolbdcmgfoaaGreatQR27
import Derived.Test.YtdgnolbdcmgfoaaGreatQR19
import Derived.Test.YtdgnolbdcmgfoaaGreatQR33
import Derived.Test.YtdgnolbdcmgfoaaGreatQR01
import Derived.Test.YtdgnolbdcmgfoaaGreatQR20
import Derived.Test.YtdgnolbdcmgfoaaGreatQR25
set_option linter.unusedVariables false
set_option linter.unusedSimpArgs false
set_option maxRecDepth 100000
set_option maxHeartbeats 8000000
section
namespace Go.Smd
open Go.RowKit Go.Proofs Go.Proofs.Tryz
abbrev zdO:TypeId:=22
abbrev zgG (W:List (List EV)):List (List D):=W.map fun w=>[zG (cP w)]
theorem zkX (W:List (List EV)):zM (W.map cP)= .sl zdO (zgG W):=by simp only [zM,List.map_map];rfl
theorem zdf:prog.cellsOf  zdO=1:=by kernel_rfl
theorem zkY:prog.bytesOf  zdO=24:=by kernel_rfl
theorem ztk:(prog.info?  zdO).map (fun i=>(i.zero,i.size,i.bytes))=some (some (.slice none 0 0),1,24):=by kernel_rfl
abbrev BW (S:Nat→Prop)(w wr:World)(v:Value)(W:List (List EV)):Prop:=Build (RDs prog) zdO 1 (w.heap.size≤ ·) (fun b=>S b∨w.heap.size≤b) wr v (zgG W)
theorem zu2 (e:EV)(h:EVs e):EVs (CE e):=by
 have:=zkQ e h
 exact ⟨this.1,this.2⟩
theorem zpu {W:List (List EV)}(hW:OkW W)(hl:W.length≤3000000000001)(hs:∀w∈W,PthS w){p:List EV}(hp:∀e∈p,GoodE e)(hps:PthS p):
  ACalls prog 94 [.c (.d (zM (W.map cP))),.c (.d (zG p))] (fun r=>r= .tup [(false,[.d (dI (lbG Zf p W:Nat))]),(false,[.d (dB (zey W p))])]):=by
 have ho:zjh p:=fun e he=>(hp e he).o
 refine zu1 (W.map cP) p (lbG Zf p W) (zey W p) (by simp;omega) (fun w hw=>?_) hps ⟨by simpa using zoD p W,fun j h k=>?_,fun j h k=>?_⟩ ?_
 ·obtain ⟨w0,h0,rfl⟩:=List.mem_map.1 hw
  have:=hs w0 h0
  refine ⟨by simp [cP];exact this.1,fun e he=>?_⟩
  obtain ⟨e0,h1,rfl⟩:=List.mem_map.1 he
  exact zu2 e0 (this.2 e0 h1)
 ·rw[List.getElem_map,zcL]
  exact zlW p W j (by simpa using h) k
 ·rw[List.getElem_map,zcL]
  exact zlX zbJ ho W hW.oe hW.sort j (by simpa using h) k
 ·rw[zcm,←zuZ zbJ ho hW.oe hW.sort]
  constructor
  ·rintro ⟨x,h1,h2⟩
   exact ⟨cP x,by rw[List.getElem?_map,h1];rfl,by rw[zcL];exact h2⟩
  ·rintro ⟨x,h1,h2⟩
   rw[List.getElem?_map,Option.map_eq_some_iff] at h1
   obtain ⟨y,h3,rfl⟩:=h1
   exact ⟨y,h3,by rw[zcL] at h2;exact h2⟩
theorem BW.dat {S:Nat→Prop}{w wr:World}{v:Value}{W:List (List EV)}(h:BW S w wr v W)(hl:W.length≤3000000000001):RepD prog wr (· <wr.heap.size) (zM (W.map cP)) v:=by
 rw[zkX]
 have h2:=h.lt (zr _)
 refine Build.data (E:=zdO) (S0:=fun b=>w.heap.size≤b∧b<wr.heap.size) (by rw[zdf];exact h2) ⟨by rw[zkY];simp;omega,fun x hx=>?_⟩ rfl (fun j x y hx hy=>by rw[hx] at hy;cases hy;exact ⟨rfl,fun us k=>(zr _).frame k (fun _ _=>rfl) fun b hb=>hb.2⟩) fun k hk=>h.row_lt hk
 obtain ⟨p,_,rfl⟩:=List.mem_map.1 hx
 rw[zdf];rfl
theorem BW.dat2 {S:Nat→Prop}{w wr:World}{v:Value}{W:List (List EV)}(h:BW S w wr v W)(hl:W.length≤3000000000001):RepD prog wr (fun b=>S b∨w.heap.size≤b) (zM (W.map cP)) v:=by
 rw[zkX]
 refine Build.data (E:=zdO) (S0:=(w.heap.size≤ ·)) (S:=fun b=>S b∨w.heap.size≤b) (by rw[zdf];exact h) ⟨by rw[zkY];simp;omega,fun x hx=>?_⟩ rfl (fun j x y hx hy=>by rw[hx] at hy;cases hy;exact ⟨rfl,fun us k=>k⟩) fun k hk=>.inr (h.row_in hk)
 obtain ⟨p,_,rfl⟩:=List.mem_map.1 hx
 rw[zdf];rfl
theorem zhX:∀(n:Nat) (l:List (List EV)) ,(mkW (l.take n)).length≤n
 |0,l=>by simp
 |n+1,l=>by
  have ih:=zhX n l
  rw[List.take_add_one]
  cases h:l[n]? with
  |none=>simp;omega
  |some p=>
   simp only [Option.toList_some,zfb,zfy]
   split
   ·omega
   ·split
    ·omega
    ·rw[Z9];omega
theorem zlZ:∀(n:Nat) (l:List (List EV)){x:List EV} ,x∈mkW (l.take n)→x∈l.take n
 |0,l,x,h=>by simp at h
 |n+1,l,x,h=>by
  have ih:=zlZ n l (x:=x)
  rw[List.take_add_one] at h ⊢
  cases hp:l[n]? with
  |none=>rw[hp] at h;simp at h ⊢;exact ih h
  |some p=>
   rw[hp] at h
   simp only [Option.toList_some,zfb,zfy] at h ⊢
   simp only [List.mem_append,List.mem_singleton]
   split at h
   ·exact .inl (ih h)
   ·split at h
    ·exact .inl (ih h)
    ·rcases zcz.1 h with rfl|h
     ·exact .inr rfl
     ·exact .inl (ih h)
theorem zqQ (l:List (List EV))(w:World)(S:Nat→Prop)(lv:Value)(hlv:RepD prog w S (zM l) lv)(hS:∀b,S b→b<w.heap.size)(hl:l.length≤3000000000000)(hg:∀p∈l,PthS p∧∀e∈p,GoodE e):
  Calls prog 35 #[lv] w fun en w'=>∃v,en= .returned v∧RepD prog w' (fun b=>S b∨w.heap.size≤b) (zM ((mkW l).map cP)) v∧Ext w w':=by
 obtain ⟨A,c,e1,hc,_,hrow⟩:=RepD.sl_iff.1 hlv
 simp only [List.length_map] at e1 hc
 subst e1
 obtain ⟨n,hn⟩:∃n,l.length=n:=⟨_,rfl⟩
 have hitem:Hid (∀k,k<n→∃(p:List EV) (ad:Addr) (A':Option Addr) (c':Nat),l[k]? =some p∧A=some ad∧w.cell? (ad.add k)=some (.slice A' p.length c')∧RepD prog w S (zG p) (.slice A' p.length c')):=by
  refine Lib.hid fun k hk=>?_
  have hp:l[k]? =some l[k]:=List.getElem?_eq_getElem (by omega)
  obtain ⟨_,h2⟩:=hrow k [zG l[k]] (by rw[List.getElem?_map,hp];rfl)
  obtain ⟨ad,h3,h4⟩:=h2 (by rw[zdf];omega)
  obtain ⟨u,_,h6,h7⟩:=h4 0 (zG l[k]) rfl
  obtain ⟨A',c',e2,_⟩:=RepD.sl_iff.1 h7
  simp only [List.length_map] at e2
  subst e2
  refine ⟨l[k],ad,A',c',hp,h3,?_,h7⟩
  rw[zdf,Nat.mul_one,zfh,Nat.add_zero] at h6
  exact h6
 have Hn:=Lib.hid hn
 rw[hn] at hc hl hlv ⊢
 have HSd:=Lib.hid hS;have Hg:=Lib.hid hg
 clear hrow hlv hS hg hn
 have hn9:n≤9223372036854775807:=by omega
 go_enter func35,ntmps35
 go_wp2
 go_loopw [3,10] (fun v i wr=>∃k:Nat,k≤n∧i= .int .i64 k∧Hid (Ext w wr∧BW S w wr v (mkW (l.take k)))) (fun _ i _=>n - (intOf i).toNat)
 case atStart=>exact ⟨0,Nat.zero_le _,rfl,Lib.hid ⟨Ext.refl w,Build.nil⟩⟩
 case round=>
  obtain ⟨k,hk,rfl,hI⟩:=hrel
  by_cases hlt:k<n
  ·obtain ⟨p,ad,A',c',hp,rfl,hcell,hrep⟩:=hitem.out k hlt
   have hcell:=hI.out.1.cell hcell
   have htk:mkW (l.take (k+1))=zfy p (mkW (l.take k)):=by rw[List.take_add_one,hp];simp [zfb]
   have Htk:=Lib.hid htk;have Hrep:=Lib.hid hrep;have Hp:=Lib.hid hp
   clear htk hrep hp
   have hpm:p∈l:=List.mem_of_getElem? Hp.out
   have hpl:p.length≤9223372036854775807:=by have:=(Hg.out p hpm).1.1;omega
   cases p with
   |nil=>
    go_wp2
    go_roundw
    case rel=>exact ⟨k+1,by omega,by go_num,Lib.hid ⟨hI.out.1,by rw[Htk.out];exact hI.out.2⟩⟩
    case measure=>simp [intOf];omega
   |cons e q=>
    obtain ⟨W,hW⟩:∃W,W=mkW (l.take k):=⟨_,rfl⟩
    obtain ⟨hE,hB⟩:=hI.out
    rw[←hW] at hB
    have hgt:∀q∈l.take k,∀e∈q,GoodE e:=fun q hq=>(Hg.out q (List.mem_of_mem_take hq)).2
    obtain ⟨okW,hsz,_⟩:=zgE _ (l.take k) rfl hgt
    rw[←hW] at okW
    obtain ⟨m,hm⟩:∃m,m=W.length:=⟨_,rfl⟩
    have hmk:m≤k:=by rw[hm,hW];exact zhX _ _
    have hsW:∀x∈W,PthS x:=fun x hx=>by
     rw[hW] at hx
     exact (Hg.out x (List.mem_of_mem_take (zlZ _ _ hx))).1
    obtain ⟨A1,c1,hv⟩:=hB.slice
    rw[List.length_map,←hm] at hv
    subst hv
    have hcp:=zpu okW (by omega) hsW (Hg.out _ hpm).2 (Hg.out _ hpm).1
    have hd:=BW.dat hB (by omega)
    obtain ⟨i,hi⟩:∃i,i=lbG Zf (e::q) W:=⟨_,rfl⟩
    have hiw:i≤m:=by rw[hi,hm];exact zoD _ _
    rw[←hi] at hcp
    have HPL:Hid (Calls prog 94 #[.slice A1 m c1,.slice A' (q.length+1) c'] wr fun en w2=>en= .returned (.tuple #[.int .i64 i,.bool (zey W (e::q))])∧Ext wr w2):=by
     refine Lib.hid ((hcp.2 wr (· <wr.heap.size) [_,_] (fun b hb=>hb) (.cons hd (.cons ((Hrep.out.ext hE).mono fun b hb=>Nat.lt_of_lt_of_le (HSd.out b hb) hE.size) .nil))).mono ?_)
     rintro en w2 ⟨v,r,rfl,rfl,hv,hE2⟩
     refine ⟨?_,hE2⟩
     obtain ⟨us,rfl,ha⟩:=hv
     obtain ⟨p1,us,rfl,k1,ha⟩:=ha.inv
     obtain ⟨p2,us,rfl,k2,ha⟩:=ha.inv
     cases ha.inv0
     obtain ⟨x1,e1,k1⟩:=k1
     obtain ⟨x2,e2,k2⟩:=k2
     cases e1;cases e2
     cases (show RepD _ w2 _ (dI _) p1 from k1)
     cases (show RepD _ w2 _ (dB _) p2 from k2)
     rfl
    have Hi:=Lib.hid hi;have Hm:=Lib.hid hm;have HokW:=Lib.hid okW;have HsW:=Lib.hid hsW;have HW:=Lib.hid hW;have HE:=Lib.hid hE;have HB:=Lib.hid hB
    clear hi hcp hd hgt hsz hm okW hsW hW hE hB hI
    go_wp2_with fail
    refine HPL.out.mono ?_
    rintro en w2 ⟨rfl,hE2⟩
    have HE2:=Lib.hid hE2
    clear hE2 HPL hcell
    cases hfd:zey W (e::q) with
    |true=>
     have hnx:mkW (l.take (k+1))=W:=by rw[Htk.out,←HW.out];simp [zfy,hfd]
     have HK:Hid (Ext w w2∧BW S w w2 (.slice A1 m c1) (mkW (l.take (k+1)))):=Lib.hid ⟨HE.out.trans HE2.out,by rw[hnx];exact HB.out.ext (zr _) HE2.out⟩
     clear hnx hfd
     go_wp2_with fail
     go_roundw
     case rel=>exact ⟨k+1,by omega,by go_num,HK⟩
     case measure=>simp [intOf];omega
    |false=>
     have HFD:=Lib.hid hfd
     clear hfd
     have hB2:=HB.out.ext (zr _) HE2.out
     have hsz2:w.heap.size≤w2.heap.size:=(HE.out.trans HE2.out).size
     obtain ⟨v5,w5,hrun,hB5,hg5,hat5,_⟩:=Build.push (P:=prog) (zr _) (t:=32) (ty:=32) underlying32 ztk rfl (by omega) (by omega) hB2 (y:=[zG []]) (ys:=[.slice none 0 0]) (.cons (RepD.nil _) .nil) rfl (by simp [Value.oneCell']) (by omega) (by rw[List.length_map,←Hm.out];omega)
     obtain ⟨cs5,hown5,h1c,hel5⟩:=RDs.cells hB5 (by omega)
     have hbs5:∀x,v5.ownBlock=some x→w.heap.size≤x:=fun x hx=>hB5.row_in hx
     rw[List.length_append,List.length_map,←Hm.out] at hown5
     obtain ⟨g,cap,cur,rfl,z1,z2,z3,z4,z5⟩:=World.ownsRow.one hown5 (by simp)
     have hgw:w.heap.size≤g:=hbs5 g rfl
     simp only [List.length_cons,List.length_nil,Nat.zero_add,Nat.mul_one] at hrun hown5 z2 z4 z5
     have hE5:Ext w w5:=by
      refine ⟨hg5.os.trans (HE.out.trans HE2.out).os,hg5.tape.trans (HE.out.trans HE2.out).tape,hg5.output.trans (HE.out.trans HE2.out).output,Nat.le_trans hsz2 hg5.size,fun b hb=>?_⟩
      refine (hg5.block b (by omega) fun h=>?_).trans ((HE.out.trans HE2.out).block b hb)
      have:=HB.out.row_in h.symm
      omega
     have HR:=Lib.hid hrun;have HE5:=Lib.hid hE5;have HZ1:=Lib.hid z1;have HZ5:=Lib.hid z5;have HZ4:=Lib.hid z4;have H1C:=Lib.hid h1c;have HEL:=Lib.hid hel5;have HO5:=Lib.hid hown5
     clear hrun hB5 hg5 hat5 hown5 hbs5 z1 z4 z5 h1c hel5 hB2 hE5
     go_upto_region 9 with (at_builtin;refine zY HR.out rfl rfl rfl rfl ?_)
     have hgd:w5.drew.heap[g]? =some (.cells cur zdO (0,0)):=HZ1.out
     have hcl:cs5.length=m+1:=by rw[HO5.out.1,Nat.mul_one]
     obtain ⟨cr,hcr⟩:∃cr,cr=(cs5.drop i).take (m - i):=⟨_,rfl⟩
     have hcrl:cr.length=m - i:=by rw[hcr,List.length_take,List.length_drop,hcl];omega
     obtain ⟨c9,hc9⟩:∃c9,c9=(cur.toList.take (i+1)++cr++cur.toList.drop (i+1+cr.length)).toArray:=⟨_,rfl⟩
     have hz4:=HZ4.out
     have hcsz:cur.toList.length=cap:=by rw[Array.length_toList];omega
     have hc9s:c9.size=cap:=by rw[hc9];simp only [List.size_toArray,List.length_append,List.length_take,List.length_drop,hcrl,hcsz];omega
     have hcap9:cap≤9223372036854775807:=by unfold maxLen at z3;omega
     obtain ⟨dv,hcut1,hcp⟩:∃dv,(∀W':World,(Instr.slice 32 (.slice (some ⟨g,0,none⟩) (m+1) cap) (some (.int .i64 ((i:Int)+1))) none none).run prog W'= .ok dv W')∧
       ∀ty,(Builtin.copy_ #[32,32] ty #[dv,.slice (some ⟨g,i,none⟩) (m+1 - i) (cap - i)]).run prog w5.drew= .ok (goInt ((m - i:Nat):Int)) (w5.drew.setRow g c9):=by
      have ht:=underlying32
      have hel:prog.elem 32=zdO:=by simp [Program.elem,ht]
      have hu:prog.underlying 32=some (.slice (prog.elem 32)):=by rw[hel];exact ht
      obtain ⟨ifo,hi',h4⟩:=Option.map_eq_some_iff.1 (show (prog.info? zdO).map (·.size)=some 1 from by kernel_rfl)
      have hsrc:∀(j:Nat) (v:Value),cr[j]? =some v→w5.drew.cell? ((⟨g,i,none⟩:Addr).add j)=some v:=fun j v hj=>by
       have e:(⟨g,i,none⟩:Addr).add j=⟨g,i+j,none⟩:=by unfold Addr.add;split<;>simp_all
       rw[e]
       refine zh hgd ?_
       rw[hcr,List.getElem?_take] at hj
       split at hj
       ·rw[List.getElem?_drop,←HZ5.out,List.getElem?_take] at hj
        split at hj
        ·simpa using hj
        ·cases hj
       ·cases hj
      have h1r:∀v∈cr,v.oneCell'=true:=fun v hv=>H1C.out v (by rw[hcr] at hv;exact List.mem_of_mem_drop (List.mem_of_mem_take hv))
      by_cases hci:cap=i+1
      ·have him:i=m:=by omega
       refine ⟨.slice (some ⟨g,0,none⟩) (m+1 - (i+1)) (cap - (i+1)),fun W'=>?_,fun ty=>?_⟩
       ·rw[run_slice_l W' 32 (some ⟨g,0,none⟩) (m+1) cap hu .i64 ((i:Int)+1) (by omega) (by omega),hel]
        have e1:((i:Int)+1).toNat=i+1:=by omega
        simp [sizeOf,typeInfo,hi',sliced,Result.andThen,h4,e1,hci]
       ·have hcr0:cr= []:=List.eq_nil_of_length_eq_zero (by omega)
        have h:=zaN (P:=prog) w5.drew 32 32 ty zdO 1 g 0 (m+1 - (i+1)) (cap - (i+1)) ⟨g,i,none⟩ (m+1 - i) (cap - i) cur zdO cr ht (by kernel_rfl) hgd (by rw[hcrl];simp only [Nat.min_def];split<;>omega) hsrc (by rw[hcrl,hz4];omega) h1r
        have e9:(cur.toList.take 0++cr++cur.toList.drop (0+cr.length)).toArray=c9:=by rw[hc9,hcr0];simp
        rw[e9] at h
        rw[h]
        have:Nat.min (m+1 - i) (m+1 - (i+1))=m - i:=by simp only [Nat.min_def];split<;>omega
        rw[this]
      ·refine ⟨.slice (some ⟨g,i+1,none⟩) (m+1 - (i+1)) (cap - (i+1)),fun W'=>?_,fun ty=>?_⟩
       ·rw[run_slice_l W' 32 (some ⟨g,0,none⟩) (m+1) cap hu .i64 ((i:Int)+1) (by omega) (by omega),hel]
        have e1:((i:Int)+1).toNat=i+1:=by omega
        simp [sizeOf,typeInfo,hi',sliced,Result.andThen,h4,e1,hci,Addr.add]
       ·have h:=zaN (P:=prog) w5.drew 32 32 ty zdO 1 g (i+1) (m+1 - (i+1)) (cap - (i+1)) ⟨g,i,none⟩ (m+1 - i) (cap - i) cur zdO cr ht (by kernel_rfl) hgd (by rw[hcrl];simp only [Nat.min_def];split<;>omega) hsrc (by rw[hcrl,hz4];omega) h1r
        rw[←hc9] at h
        rw[h]
        have:Nat.min (m+1 - i) (m+1 - (i+1))=m - i:=by simp only [Nat.min_def];split<;>omega
        rw[this]
     have hcut2:∀W':World,(Instr.slice 32 (.slice (some ⟨g,0,none⟩) (m+1) cap) (some (.int .i64 (i:Int))) none none).run prog W'= .ok (.slice (some ⟨g,i,none⟩) (m+1 - i) (cap - i)) W':=fun W'=>by
      have ht:=underlying32
      have hel:prog.elem 32=zdO:=by simp [Program.elem,ht]
      have hu:prog.underlying 32=some (.slice (prog.elem 32)):=by rw[hel];exact ht
      obtain ⟨ifo,hi',h4⟩:=Option.map_eq_some_iff.1 (show (prog.info? zdO).map (·.size)=some 1 from by kernel_rfl)
      rw[run_slice_l W' 32 (some ⟨g,0,none⟩) (m+1) cap hu .i64 (i:Int) (by omega) (by omega),hel]
      have hci:¬cap=i:=by omega
      have ha:(⟨g,0,none⟩:Addr).add i=⟨g,i,none⟩:=zgd g i
      simp [sizeOf,typeInfo,hi',sliced,Result.andThen,h4,hci,ha]
     have hw1:IntKind.i64.wrap ((i:Int)+1)=(i:Int)+1:=by rw[IntKind.wrap_i64];omega
     have HCP:=Lib.hid hcp;have HGD:=Lib.hid hgd
     clear hcp hgd hz4
     have HE6:Hid (Ext w w5.drew):=Lib.hid HE5.out.drew
     have HEQ:Hid (w5.drew.heap=w5.heap):=Lib.hid rfl
     refine ZP [7] (by kernel_rfl) ?_
     generalize w5.drew=w6 at HCP HGD HE6 HEQ ⊢
     refine ZJ (listed':=lst 8 [0,1,2,3,4,5,6]) [0,1,2,3,4,5,6] 1 (by kernel_rfl) (fun _ _ _ _ h=>h) (by kernel_rfl) rfl (by kernel_rfl) ?_
     repeat (refine z6 rfl ?_;go_big_quiet_step (fail);refine wpQuiet_nil ?_)
     refine Zi ?_
     refine zcq (n:=0) (i:=7) (listed':=lst 8 [0,1,2,3,4,5,6,7]) (by kernel_rfl) rfl rfl rfl (by kernel_rfl) ?_
     refine zck (HCP.out _) rfl rfl rfl rfl ?_
     refine ziu ?_
     simp only [Act.put,List.setIfInBounds_toArray,List.set_cons_zero,List.set_cons_succ]
     refine zcu (by kernel_rfl) ?_
     have HG9:Hid ((w6.setRow g c9).heap[g]? =some (.cells c9 zdO (0,0))):=Lib.hid (setRow_heap _ g cur c9 _ _ HGD.out)
     have HO9:Hid (∀x,x≠g→(w6.setRow g c9).heap[x]? =w6.heap[x]?):=Lib.hid fun x hx=>setRow_other w6 g x c9 hx
     have HS9:Hid ((w6.setRow g c9).heap.size=w6.heap.size):=Lib.hid (by simp [World.setRow])
     have HE9:Hid (Ext w (w6.setRow g c9)):=Lib.hid ⟨HE6.out.os,HE6.out.tape,HE6.out.output,by rw[HS9.out];exact HE6.out.size,fun x hx=>(HO9.out x (by omega)).trans (HE6.out.block x hx)⟩
     clear HCP
     generalize w6.setRow g c9=w9 at HG9 HO9 HS9 HE9 ⊢
     have HCL:Hid (Calls prog 95 #[.slice A' (q.length+1) c'] w9 fun en w10=>∃A2 c2,en= .returned (.slice A2 (q.length+1) c2)∧RepD prog w10 (fun b=>S b∨w9.heap.size≤b) (zG (cP (e::q))) (.slice A2 (q.length+1) c2)∧Ext w9 w10):=by
      refine Lib.hid (((znj _ (Hg.out _ hpm).1).2 w9 S [_] (fun b hb=>Nat.lt_of_lt_of_le (HSd.out b hb) HE9.out.size) (.cons (Hrep.out.ext HE9.out) .nil)).mono ?_)
      rintro en w10 ⟨v,r,rfl,rfl,hv,hE10⟩
      obtain ⟨A2,c2,e2,_⟩:=RepD.sl_iff.1 (show RepD prog w10 (fun b=>S b∨w9.heap.size≤b) (zG (cP (e::q))) v from hv)
      simp only [List.length_map,List.length_cons] at e2
      subst e2
      exact ⟨A2,c2,rfl,hv,hE10⟩
     go_wp2_with fail
     refine HCL.out.mono ?_
     rintro en w10 ⟨A2,c2,rfl,hr10,hE10⟩
     have HR10:=Lib.hid hr10;have HE10:=Lib.hid hE10
     have HG10:Hid (w10.heap[g]? =some (.cells c9 zdO (0,0))):=Lib.hid (hE10.heap HG9.out)
     clear hr10 hE10 HCL
     obtain ⟨x9,hx9⟩:∃x,c9[i]? =some x:=⟨_,Array.getElem?_eq_getElem (by omega)⟩
     have q1:=zh HG10.out hx9
     have hfz:∀o,w10.frozen? ⟨g,o,none⟩=false:=fun o=>by simp [World.frozen?,HG10.out]
     have hi1:i<m+1:=by omega
     have hm9:m+1≤9223372036854775807:=by omega
     have HK:Hid (Ext w (w10.setCell ⟨g,i,none⟩ (.slice A2 (q.length+1) c2))∧BW S w (w10.setCell ⟨g,i,none⟩ (.slice A2 (q.length+1) c2)) (.slice (some ⟨g,0,none⟩) (m+1) cap) (mkW (l.take (k+1)))):=by
      have hsm:=Z6 w10 g i (.slice A2 (q.length+1) c2)
      have hE11:Ext w (w10.setCell ⟨g,i,none⟩ (.slice A2 (q.length+1) c2)):=by
       have e0:=HE9.out.trans HE10.out
       exact ⟨e0.os,e0.tape,e0.output,by simpa [World.setCell] using e0.size,fun x hx=>(hsm x (by omega)).trans (e0.block x hx)⟩
      refine ⟨hE11,?_⟩
      have hnx:mkW (l.take (k+1))=zX i (e::q) W:=by rw[Htk.out,←HW.out,Hi.out];simp [zfy,HFD.out]
      have hw6:w6.heap.size=w5.heap.size:=by rw[HEQ.out]
      have hg5:g<w5.heap.size:=(Array.getElem?_eq_some_iff.1 HZ1.out).1
      have stay:∀x,x≠g→x<w5.heap.size→(w10.setCell ⟨g,i,none⟩ (.slice A2 (q.length+1) c2)).heap[x]? =w5.heap[x]? :=fun x hx hl=>by
       refine (hsm x hx).trans ((HE10.out.block x (by rw[HS9.out,hw6];exact hl)).trans ((HO9.out x hx).trans ?_))
       rw[HEQ.out]
      rw[hnx]
      show Build _ _ _ _ _ _ _ (zgG (zX i (e::q) W))
      have er:zgG (zX i (e::q) W)=zX i [zG (cP (e::q))] (zgG W):=by simp only [zgG,zfs]
      rw[er]
      have hel0:=HEL.out.take m
      have et:(zgG W++ [[zG []]]).take m=zgG W:=List.take_left' (by rw[List.length_map,←Hm.out])
      rw[et,Nat.mul_one] at hel0
      have hel1:Elems (RDs prog (w10.setCell ⟨g,i,none⟩ (.slice A2 (q.length+1) c2)) fun b=>(S b∨w.heap.size≤b)∧(Value.slice (some ⟨g,0,none⟩) (m+1) cap).ownBlock≠some b) 1 (zgG W) (cs5.take m):=hel0.imp fun x cc r=>by
       have r2:=(zr _).lt r
       refine (zr _).frame r2 (fun b hb=>stay b (fun h=>hb.1.2 (by rw[h];rfl)) hb.2) fun b hb=>hb.1
      have hnew:RDs prog (w10.setCell ⟨g,i,none⟩ (.slice A2 (q.length+1) c2)) (fun b=>(S b∨w.heap.size≤b)∧(Value.slice (some ⟨g,0,none⟩) (m+1) cap).ownBlock≠some b) [zG (cP (e::q))] [.slice A2 (q.length+1) c2]:=by
       refine .cons (HR10.out.frame (fun b hb=>hsm b fun h=>?_) fun b hb=>?_) .nil
       ·subst h
        rcases hb with hb|hb
        ·have:=HSd.out b hb;omega
        ·rw[HS9.out,hw6] at hb;omega
       ·have hne:g≠b:=fun h=>by
         subst h
         rcases hb with hb|hb
         ·have:=HSd.out g hb;omega
         ·rw[HS9.out,hw6] at hb;omega
        refine ⟨hb.imp id fun h=>Nat.le_trans HE9.out.size h,fun h=>hne ?_⟩
        injection h
      have hins:=Elems.ins hel1 i hnew rfl
      refine ⟨_,?_,fun x hx=>by
       have h:g=x:=by injection hx
       omega,hins⟩
      rw[Z9,List.length_map,←Hm.out]
      have hlen:((cs5.take m).take (i*1)++([Value.slice A2 (q.length+1) c2]++(cs5.take m).drop (i*1))).length=(m+1)*1:=by
       simp only [List.length_append,List.length_take,List.length_drop,hcl,List.length_cons,List.length_nil];omega
      refine ⟨hlen,.inr ⟨g,cap,c9.setIfInBounds i (.slice A2 (q.length+1) c2),rfl,Nat.zero_le _,zaK _ HG10.out,z2,z3,by simp [hc9s],?_⟩⟩
      have hcur:∀j,j<m+1→cur.toList[j]? =cs5[j]? :=fun j hj=>by rw[←HZ5.out,List.getElem?_take,if_pos hj]
      refine List.ext_getElem? fun j=>?_
      rw[List.getElem?_take,Nat.mul_one,Nat.mul_one]
      by_cases hj:j<m+1
      ·rw[if_pos hj,Array.getElem?_toList,Array.getElem?_setIfInBounds]
       by_cases hji:i=j
       ·subst hji
        rw[if_pos rfl,if_pos (by omega),List.getElem?_append_right (by simp only [List.length_take,hcl];omega)]
        have:i - ((cs5.take m).take i).length=0:=by simp only [List.length_take,hcl];omega
        rw[this];rfl
       ·rw[if_neg hji,hc9]
        simp only [List.getElem?_toArray]
        by_cases hlt':j<i
        ·rw[List.append_assoc,List.getElem?_append_left (by rw[List.length_take,hcsz];omega),List.getElem?_take,if_pos (by omega),hcur j hj,List.getElem?_append_left (by simp only [List.length_take,hcl];omega),List.getElem?_take,if_pos hlt',List.getElem?_take,if_pos (by omega)]
        ·have l1:(cur.toList.take (i+1)).length=i+1:=by rw[List.length_take,hcsz];omega
         rw[List.append_assoc,List.getElem?_append_right (by rw[l1];omega),l1,List.getElem?_append_left (by rw[hcrl];omega),hcr,List.getElem?_take,if_pos (by omega),List.getElem?_drop]
         have l2:((cs5.take m).take i).length=i:=by simp only [List.length_take,hcl];omega
         rw[List.getElem?_append_right (by rw[l2];omega),l2]
         obtain ⟨d,hd⟩:∃d,j - i=d+1:=⟨j - i - 1,by omega⟩
         rw[hd]
         simp only [List.cons_append,List.nil_append,List.getElem?_cons_succ]
         rw[List.getElem?_drop,List.getElem?_take,if_pos (by omega)]
         congr 1;omega
      ·rw[if_neg hj,List.getElem?_eq_none]
       rw[Nat.mul_one,Nat.mul_one] at hlen
       rw[hlen];omega
     go_wp2_with fail
     go_roundw
     case rel=>exact ⟨k+1,by omega,by go_num,HK⟩
     case measure=>simp [intOf];omega
  ·have hkn:k=n:=by omega
   subst hkn
   obtain ⟨hE,hB⟩:=hI.out
   have e:l.take k=l:=List.take_of_length_le (by rw[Hn.out];exact Nat.le_refl _)
   rw[e] at hB
   have hlenW:(mkW l).length≤k:=by have:=zhX k l;rw[e] at this;exact this
   have hd:=BW.dat2 hB (by omega)
   have HD:=Lib.hid hd
   clear hd hB hI
   go_wp2
   go_ret
   exact ⟨_,rfl,HD.out,hE⟩
theorem zhY (l:List (List EV))(hl:l.length≤3000000000000)(hg:∀p∈l,PthS p∧∀e∈p,GoodE e):ACalls prog 35 [.c (.d (zM l))] (fun r=>r= .c (.d (zM ((mkW l).map cP)))):=by
 refine ⟨⟨_,func35,by kernel_rfl,rfl⟩,fun w S vs hS ha=>?_⟩
 obtain ⟨v,vs,rfl,h1,ha⟩:=ha.inv
 cases ha.inv0
 refine (zqQ l w S v h1 hS hl hg).mono ?_
 rintro en w' ⟨u,rfl,hr,hE⟩
 exact ⟨u,_,rfl,rfl,hr,hE⟩
theorem znk {l:List (List EV)}(h:okD prog (zM l)):l.length*24≤140737488351232∧∀p∈l,PthS p∧∀e∈p,FitsE e:=by
 obtain ⟨h1,h2⟩:=zgY h
 simp at h1
 refine ⟨by omega,fun p hp=>?_⟩
 have k:=zuS ((h2 [zG p] (List.mem_map.2 ⟨p,hp,rfl⟩)).2 (zG p) (by simp))
 exact ⟨⟨k.1,fun e he=>⟨(k.2 e he).1,(k.2 e he).2.2.1⟩⟩,fun e he=>(k.2 e he).2.2.2⟩
theorem zjq (l:List (List EV)):(mkW l).length≤l.length:=by
 have:=zhX l.length l
 rwa[List.take_of_length_le (Nat.le_refl _)] at this
theorem zfu (t:Tree):Zl t→Zl (zx (zK t)):=by
 induction t using Tree.ind with
 |hn=>intro _;simp [zK,zx,Zl]
 |hb b=>intro _;cases b<;>simp [zK,zx,Zl]
 |hi n=>intro _;simp [zK,zx,Zl]
 |hf f=>intro _;simp [zK,zx,Zl]
 |hs s=>intro _;simp [zK,zx,Zl]
 |hl l IH=>
  intro h
  simp only [Zl] at h
  have hl:∀x∈treesOf (fromTs l),Zl x:=fun x hx=>by
   rw[ZG,zde,List.map_map] at hx
   obtain ⟨y,hy,rfl⟩:=List.mem_map.1 hx
   exact IH y hy (h.2.mem y hy)
  have hlen:(treesOf (fromTs l)).length=l.length:=by rw[ZG,zde];simp
  have e:zx (zK (.list l))= .list (treesOf (fromTs l)):=by simp [zK,zx]
  rw[e]
  simp only [Zl]
  exact ⟨by omega,FitsL.of hl⟩
 |hm m IH=>
  intro h
  simp only [Zl] at h
  have hall:∀x∈treesOf ((fromMs m).map (·.2)),Zl x:=fun x hx=>by
   rw[ZG,List.map_map] at hx
   obtain ⟨p,hp,rfl⟩:=List.mem_map.1 hx
   obtain ⟨t,ht,e⟩:=zdr (k:=p.1) (v:=p.2) hp
   show Zl (zx p.2)
   rw[e]
   exact IH _ ht (h.2.2.mem _ ht)
  have hlen:(treesOf ((fromMs m).map (·.2))).length=m.length:=by rw[ZG];simp [zf1 h.2.1]
  obtain ⟨a,b,c⟩:=zfV ((fromMs m).map (·.1)) (treesOf ((fromMs m).map (·.2))) [] (by simp) (by simp) hall
  have e:zx (zK (.map m))= .map (ZC ((fromMs m).map (·.1)) (treesOf ((fromMs m).map (·.2))) []):=by simp [zK,zcU,zx]
  rw[e]
  simp only [Zl]
  exact ⟨by simp at c;omega,a,FitsM.of b⟩
theorem zpv (a b:GV)(ha:Zl (zx a))(hb:Zl (zx b))(oa:OG a)(ob:OG b):zar (zw a) (zw b)=0↔eqP (zw a) (zw b)=true:=by
 have fa:Zl (zx (zw a)):=by rw[←zby a];exact zfu _ ha
 have fb:Zl (zx (zw b)):=by rw[←zby b];exact zfu _ hb
 have h:=zsP (zw a) (zw b) fa fb oa ob
 rwa[zg6 _ _ fa fb,zsC _ _ fa fb,zcy,zcy] at h
theorem zpw:∀l  m:List (ByteArray×GV),(∀p∈l,Zl (zx p.2)∧OG p.2)→(∀p∈m,Zl (zx p.2)∧OG p.2)→(zE zbD l m=0↔zf0 l m=true)
 | [],[],_,_=>by simp [zE,zf0]
 | [],_::_,_,_=>by simp [zE,zf0]
 |_::_,[],_,_=>by simp [zE,zf0]
 |p::l,q::m,hl,hm=>by
  have ih:=zpw l m (fun x hx=>hl x (List.mem_cons_of_mem _ hx)) (fun x hx=>hm x (List.mem_cons_of_mem _ hx))
  have hp:=hl p (by simp)
  have hq:=hm q (by simp)
  have hv:=zpv p.2 q.2 hp.1 hq.1 hp.2 hq.2
  have hg:zbD p q=0↔p.1=q.1∧zar (zw p.2) (zw q.2)=0:=by
   unfold zbD
   by_cases h1:p.1=q.1
   ·have h0:=zg9.2 h1
    rw[if_neg (show ¬zaZ p.1 q.1≠0 from fun h=>h h0)]
    exact ⟨fun h=>⟨h1,h⟩,fun h=>h.2⟩
   ·have h0:zaZ p.1 q.1≠0:=fun h=>h1 (zg9.1 h)
    rw[if_pos h0]
    exact ⟨fun h=>absurd h h0,fun h=>absurd h.1 h1⟩
  simp only [zE,zf0,Bool.and_eq_true,decide_eq_true_eq]
  rw[←hv,←ih,←hg]
  by_cases h0:zbD p q=0
  ·rw[if_neg (show ¬zbD p q≠0 from fun h=>h h0)]
   exact ⟨fun h=>⟨h0,h⟩,fun h=>h.2⟩
  ·rw[if_pos (show zbD p q≠0 from h0)]
   exact ⟨fun h=>absurd h h0,fun h=>absurd h.1 h0⟩
theorem znl {a b:EV}(ha:GoodE a)(hb:GoodE b):zjP a b=true↔zt a b=0:=by
 unfold zjP zt
 by_cases hr:rkE a.k=rkE b.k
 ·have h0:=zha.2 hr
  rw[if_neg (show ¬rkE a.k≠rkE b.k from fun h=>h hr),if_neg (show ¬zB (rkE a.k) (rkE b.k)≠0 from fun h=>h h0)]
  by_cases h1:rkE a.k=1
  ·rw[if_pos h1,if_pos h1]
   exact (zpw _ _ (fun p hp=>⟨ha.f.zip p hp,ha.o.key h1 p hp⟩) fun p hp=>⟨hb.f.zip p hp,hb.o.key (hr▸h1) p hp⟩).symm
  ·rw[if_neg h1,if_neg h1]
   by_cases h2:rkE a.k=2
   ·rw[if_pos h2,if_pos h2]
    exact (zpv _ _ ha.f.val hb.f.val (ha.o.val h2) (hb.o.val (hr▸h2))).symm
   ·rw[if_neg h2,if_neg h2]
    by_cases h3:rkE a.k=3
    ·rw[if_pos h3,if_pos h3,decide_eq_true_eq,zha]
    ·rw[if_neg h3,if_neg h3,decide_eq_true_eq,zg9]
 ·have h0:zB (rkE a.k) (rkE b.k)≠0:=fun h=>hr (zha.1 h)
  rw[if_pos hr,if_pos h0]
  simp [h0]
section
variable {α:Type} {O:α→Prop} {c:α→α→Int}
theorem zhJ (hO:Ord3 O c):∀{A B:List α},(∀x∈A,O x)→(∀x∈B,O x)→A.Pairwise (fun x y=>c x y<0)→B.Pairwise (fun x y=>c x y<0)→(∀x∈A,∃y∈B,c x y=0)→(∀y∈B,∃x∈A,c x y=0)→All2 (fun x y=>c x y=0) A B
 | [],[],_,_,_,_,_,_=>.nil
 | [],b::B,_,_,_,_,_,h=>by obtain ⟨x,hx,_⟩:=h b (by simp);cases hx
 |a::A,[],_,_,_,_,h,_=>by obtain ⟨x,hx,_⟩:=h a (by simp);cases hx
 |a::A,b::B,oA,oB,sA,sB,h1,h2=>by
  have sA:=List.pairwise_cons.1 sA
  have sB:=List.pairwise_cons.1 sB
  have oa:=oA a (by simp)
  have ob:=oB b (by simp)
  have ab:c a b=0:=by
   obtain ⟨y,hy,e1⟩:=h1 a (by simp)
   obtain ⟨x,hx,e2⟩:=h2 b (by simp)
   rcases List.mem_cons.1 hy with rfl|hy
   ·exact e1
   ·rcases List.mem_cons.1 hx with rfl|hx
    ·exact e2
    ·have oy:=oB y (List.mem_cons_of_mem _ hy)
     have ox:=oA x (List.mem_cons_of_mem _ hx)
     have k1:=hO.le_lt ob oy oa (Int.le_of_lt (sB.1 y hy))|>fun _=>sB.1 y hy
     have k2:=sA.1 x hx
     have e1':=hO.anti a y oa oy
     have e2':=hO.anti x b ox ob
     have k3:c b a<0:=hO.lt_le ob oy oa k1 (by omega)
     have k4:c a b<0:=hO.lt_le oa ox ob k2 (by omega)
     have:=hO.anti a b oa ob
     omega
  refine .cons ab (zhJ hO (fun x hx=>oA x (List.mem_cons_of_mem _ hx)) (fun x hx=>oB x (List.mem_cons_of_mem _ hx)) sA.2 sB.2 (fun x hx=>?_) fun y hy=>?_)
  ·obtain ⟨y,hy,e⟩:=h1 x (List.mem_cons_of_mem _ hx)
   rcases List.mem_cons.1 hy with rfl|hy
   ·have ox:=oA x (List.mem_cons_of_mem _ hx)
    have:=hO.anti x y ox ob
    have:=hO.eq_trans oa ob ox ab (by omega)
    have:=sA.1 x hx
    omega
   ·exact ⟨y,hy,e⟩
  ·obtain ⟨x,hx,e⟩:=h2 y (List.mem_cons_of_mem _ hy)
   rcases List.mem_cons.1 hx with rfl|hx
   ·have oy:=oB y (List.mem_cons_of_mem _ hy)
    have:=hO.anti x b oa ob
    have:=hO.eq_trans ob oa oy (by omega) e
    have:=sB.1 y hy
    omega
   ·exact ⟨x,hx,e⟩
end
mutual
def zzY:PS→PS→Bool
 | .mk ms ks,.mk ms' ks'=>eqEs ms ms' && eqPK ks ks'
def eqPK:PK→PK→Bool
 | .nil,.nil=>true
 | .cons e s r,.cons e' s' r'=>zjP e e' && zzY s s' && eqPK r r'
 |_,_=>false
def eqEs:List  EV→List EV→Bool
 | [],[]=>true
 |x::a,y::b=>zjP x y && eqEs a b
 |_,_=>false
end
mutual
def PS.full:PS→Prop
 | .mk _ ks=>ks.full
def PK.full:PK→Prop
 | .nil=>True
 | .cons _ s r=>s.size≠0∧s.full∧r.full
end
theorem PK.full_all:∀{k:PK},k.full→∀s∈k.ss,s.size≠0∧s.full
 | .nil,_,s,h=>by simp [PK.ss] at h
 | .cons e t r,hf,s,h=>by
  simp only [PK.full] at hf
  simp only [PK.ss] at h
  rcases List.mem_cons.1 h with h|h
  ·rw[h];exact ⟨hf.1,hf.2.1⟩
  ·exact PK.full_all hf.2.2 s h
theorem zkZ {e:EV}{t:PS}(h1:t.size≠0)(h2:t.full):∀{k:PK},k.full→(zbI e t k).full
 | .nil,_=>by simp only [zbI,PK.full];exact ⟨h1,h2,trivial⟩
 | .cons x s r,h=>by
  simp only [PK.full] at h
  simp only [zbI]
  split
  ·simp only [PK.full];exact ⟨h.1,h.2.1,zkZ h1 h2 h.2.2⟩
  ·split
   ·simp only [PK.full];exact ⟨h1,h2,h.2.2⟩
   ·simp only [PK.full];exact ⟨h1,h2,h⟩
theorem zk0 {e:EV}:∀{k:PK},k.full→(ZN e k).full
 | .nil,_=>by simp only [ZN,PS.empty,PS.full,PK.full]
 | .cons x s r,h=>by
  simp only [PK.full] at h
  simp only [ZN]
  split
  ·exact zk0 h.2.2
  ·split
   ·exact h.2.1
   ·simp only [PS.empty,PS.full,PK.full]
theorem zpx {e:EV}:∀{k:PK},(ZN e k).size≤k.size
 | .nil=>by simp [ZN,PS.empty,PS.size,PK.size]
 | .cons x s r=>by
  have:=zpx (e:=e) (k:=r)
  simp only [ZN,PK.size]
  split
  ·omega
  ·split
   ·omega
   ·simp [PS.empty,PS.size,PK.size]
theorem zjr:∀(q:List  EV) {s:PS},s.has q=true→s.size≠0
 | [],s,h=>by simp [PS.has] at h
 | [e],.mk ms ks,h=>by
  simp only [PS.has,zgD] at h
  obtain ⟨x,hx,_⟩:=h
  have:=List.length_pos_of_mem hx
  simp only [PS.size];omega
 |e::f::p,.mk ms ks,h=>by
  simp only [PS.has] at h
  have h1:=zjr (f::p) h
  have h2:=zpx (e:=e) (k:=ks)
  simp only [PS.size];omega
theorem znm {N:Nat}:∀(p:List EV) {s:PS},OkS N s→s.full→(∀e∈p,GoodE e)→(s.ins p).full
 | [],s,_,h,_=>by rw[zgC];exact h
 | [e],.mk ms ks,_,h,_=>by simp only [PS.ins,PS.full] at h ⊢;exact h
 |e::f::p,.mk ms ks,ok,h,hp=>by
  simp only [OkS] at ok
  simp only [PS.full] at h
  have hp':∀x∈f::p,GoodE x:=fun x hx=>hp x (List.mem_cons_of_mem _ hx)
  have okk:=zdI e ok.2.2.2.2.2.2
  simp only [PS.ins,PS.full]
  refine zkZ (zjr (f::p) ((PS.ins_has (f::p) (f::p) okk hp' (fun x hx=>(hp' x hx).o) (by simp) (by simp)).2 (.inl (zbJ.refl fun x hx=>(hp' x hx).o)))) (znm (f::p) okk (zk0 h) hp') h
theorem znn:∀(n:Nat) (l:List (List EV)) ,l.length=n→(∀p∈l,∀e∈p,GoodE e)→(mkP l).full
 |0,l,h,_=>by cases l with|nil=>simp [PS.empty,PS.full,PK.full]|cons _ _=>simp at h
 |n+1,l,h,hg=>by
  obtain ⟨m,p,rfl⟩:∃m p,l=m++ [p]:=⟨l.dropLast,l.getLast (by intro h0;rw[h0] at h;simp at h),(List.dropLast_concat_getLast _).symm⟩
  have hm:∀q∈m,∀e∈q,GoodE e:=fun q hq=>hg q (by simp [hq])
  rw[ze6]
  exact znm p (zhf _ m rfl hm) (znn n m (by simpa using h) hm) (hg p (by simp))
theorem zfc:∀{a  b:List EV},eqEs a b=true↔a.length=b.length∧∀(i:Nat) (h:i<a.length) (h':i<b.length),zjP a[i] b[i]=true
 | [],[]=>by simp [eqEs]
 | [],_::_=>by simp [eqEs]
 |_::_,[]=>by simp [eqEs]
 |x::a,y::b=>by
  simp only [eqEs,Bool.and_eq_true,zfc (a:=a) (b:=b),List.length_cons]
  constructor
  ·rintro ⟨h1,h2,h3⟩
   refine ⟨by omega,fun i hi hj=>?_⟩
   cases i with
   |zero=>exact h1
   |succ i=>exact h3 i (by omega) (by omega)
  ·rintro ⟨h1,h2⟩
   exact ⟨h2 0 (by omega) (by omega),by omega,fun i hi hj=>h2 (i+1) (by omega) (by omega)⟩
@[simp ↓] theorem zzZ {σ:St}{d:Option Tmp}{T:TypeId}{n:Nat}{xs:Array (Nat×Operand)}{ty:TypeId}{pos:String}{af:Array Edge}{g:Option (Nat×Bool)}:zhL σ ⟨d,.buildSlice T n xs,ty,pos,af,g⟩=none:=_root_.id rfl
theorem zP {P:Program}{U:TypeId}{d:TypeDesc}(hu:P.underlying U=some d)(hd:(match d with| .interface _=>false|_=>true)=true)(v:Value)(x:TypeId)(w:World):
  (Instr.typeAssert (.iface U v) x U true).run P w= .ok (.tuple #[v,.bool true]) w:=by
 unfold Instr.typeAssert
 simp only [Sem.run_bind,run_underlying hu,Result.andThen_ok]
 cases d<;>simp_all
theorem zH {P:Program}{U:TypeId}{d:TypeDesc}(hu:P.underlying U=some d)(hd:(match d with| .interface _=>false|_=>true)=true)(v:Value)(x:TypeId)(w:World):
  (Instr.typeAssert (.iface U v) x U false).run P w= .ok v w:=by
 unfold Instr.typeAssert
 simp only [Sem.run_bind,run_underlying hu,Result.andThen_ok]
 cases d<;>simp_all
theorem zI {P:Program}{U:TypeId}{d:TypeDesc}{z:Value}(hu:P.underlying U=some d)(hd:(match d with| .interface _=>false|_=>true)=true)(hz:(P.info? U).map (·.zero)=some (some z)){t:TypeId}(ht:t≠U)(v:Value)(x:TypeId)(w:World):
  (Instr.typeAssert (.iface t v) x U true).run P w= .ok (.tuple #[z,.bool false]) w:=by
 obtain ⟨i,hi,hz'⟩:=Option.map_eq_some_iff.1 hz
 unfold Instr.typeAssert
 simp only [Sem.run_bind,run_underlying hu,Result.andThen_ok]
 cases d<;>simp_all [zeroValue,typeInfo]
theorem zS {P:Program}{U:TypeId}{d:TypeDesc}{z:Value}(hu:P.underlying U=some d)(hd:(match d with| .interface _=>false|_=>true)=true)(hz:(P.info? U).map (·.zero)=some (some z))(x:TypeId)(w:World):
  (Instr.typeAssert .nilIface x U true).run P w= .ok (.tuple #[z,.bool false]) w:=by
 obtain ⟨i,hi,hz'⟩:=Option.map_eq_some_iff.1 hz
 unfold Instr.typeAssert
 simp only [Sem.run_bind,run_underlying hu,Result.andThen_ok]
 cases d<;>simp_all [zeroValue,typeInfo]
@[go_sem] theorem zu3 (v:Value)(x:TypeId)(w:World):(Instr.typeAssert (.iface 259 v) x 259 true).run prog w= .ok (.tuple #[v,.bool true]) w:=zP (d:=_) underlying259 rfl v x w
@[go_sem] theorem zvA (v:Value)(x:TypeId)(w:World):(Instr.typeAssert (.iface 259 v) x 259 false).run prog w= .ok v w:=zH (d:=_) underlying259 rfl v x w
@[go_sem] theorem ztH (t:TypeId)(ht:(t==259)=false)(v:Value)(x:TypeId)(w:World):(Instr.typeAssert (.iface t v) x 259 true).run prog w= .ok (.tuple #[.slice none 0 0,.bool false]) w:=zI (d:=_) underlying259 rfl (by kernel_rfl) (by simpa using ht) v x w
@[go_sem] theorem zvB (x:TypeId)(w:World):(Instr.typeAssert .nilIface x 259 true).run prog w= .ok (.tuple #[.slice none 0 0,.bool false]) w:=zS (d:=_) underlying259 rfl (by kernel_rfl) x w
@[go_sem] theorem zvC (v:Value)(x:TypeId)(w:World):(Instr.typeAssert (.iface 276 v) x 276 true).run prog w= .ok (.tuple #[v,.bool true]) w:=zP (d:=_) underlying276 rfl v x w
@[go_sem] theorem zwL (v:Value)(x:TypeId)(w:World):(Instr.typeAssert (.iface 276 v) x 276 false).run prog w= .ok v w:=zH (d:=_) underlying276 rfl v x w
@[go_sem] theorem zu4 (t:TypeId)(ht:(t==276)=false)(v:Value)(x:TypeId)(w:World):(Instr.typeAssert (.iface t v) x 276 true).run prog w= .ok (.tuple #[.map none,.bool false]) w:=zI (d:=_) underlying276 rfl (by kernel_rfl) (by simpa using ht) v x w
@[go_sem] theorem zwM (x:TypeId)(w:World):(Instr.typeAssert .nilIface x 276 true).run prog w= .ok (.tuple #[.map none,.bool false]) w:=zS (d:=_) underlying276 rfl (by kernel_rfl) x w
@[go_sem] theorem zvD (v:Value)(x:TypeId)(w:World):(Instr.typeAssert (.iface 2 v) x 2 true).run prog w= .ok (.tuple #[v,.bool true]) w:=zP (d:=_) underlying2 rfl v x w
@[go_sem] theorem zwN (v:Value)(x:TypeId)(w:World):(Instr.typeAssert (.iface 2 v) x 2 false).run prog w= .ok v w:=zH (d:=_) underlying2 rfl v x w
@[go_sem] theorem zu5 (t:TypeId)(ht:(t==2)=false)(v:Value)(x:TypeId)(w:World):(Instr.typeAssert (.iface t v) x 2 true).run prog w= .ok (.tuple #[.int .i64 0,.bool false]) w:=zI (d:=_) underlying2 rfl (by kernel_rfl) (by simpa using ht) v x w
@[go_sem] theorem zwO (x:TypeId)(w:World):(Instr.typeAssert .nilIface x 2 true).run prog w= .ok (.tuple #[.int .i64 0,.bool false]) w:=zS (d:=_) underlying2 rfl (by kernel_rfl) x w
@[go_sem] theorem zvE (v:Value)(x:TypeId)(w:World):(Instr.typeAssert (.iface 21 v) x 21 true).run prog w= .ok (.tuple #[v,.bool true]) w:=zP (d:=_) underlying21 rfl v x w
@[go_sem] theorem zwP (v:Value)(x:TypeId)(w:World):(Instr.typeAssert (.iface 21 v) x 21 false).run prog w= .ok v w:=zH (d:=_) underlying21 rfl v x w
@[go_sem] theorem zu6 (t:TypeId)(ht:(t==21)=false)(v:Value)(x:TypeId)(w:World):(Instr.typeAssert (.iface t v) x 21 true).run prog w= .ok (.tuple #[.int .i32 0,.bool false]) w:=zI (d:=_) underlying21 rfl (by kernel_rfl) (by simpa using ht) v x w
@[go_sem] theorem zwQ (x:TypeId)(w:World):(Instr.typeAssert .nilIface x 21 true).run prog w= .ok (.tuple #[.int .i32 0,.bool false]) w:=zS (d:=_) underlying21 rfl (by kernel_rfl) x w
@[go_sem] theorem zvF (v:Value)(x:TypeId)(w:World):(Instr.typeAssert (.iface 25 v) x 25 true).run prog w= .ok (.tuple #[v,.bool true]) w:=zP (d:=_) underlying25 rfl v x w
@[go_sem] theorem zwR (v:Value)(x:TypeId)(w:World):(Instr.typeAssert (.iface 25 v) x 25 false).run prog w= .ok v w:=zH (d:=_) underlying25 rfl v x w
@[go_sem] theorem zu7 (t:TypeId)(ht:(t==25)=false)(v:Value)(x:TypeId)(w:World):(Instr.typeAssert (.iface t v) x 25 true).run prog w= .ok (.tuple #[.float .f64 0,.bool false]) w:=zI (d:=_) underlying25 rfl (by kernel_rfl) (by simpa using ht) v x w
@[go_sem] theorem zwS (x:TypeId)(w:World):(Instr.typeAssert .nilIface x 25 true).run prog w= .ok (.tuple #[.float .f64 0,.bool false]) w:=zS (d:=_) underlying25 rfl (by kernel_rfl) x w
@[go_sem] theorem zvG (v:Value)(x:TypeId)(w:World):(Instr.typeAssert (.iface 3 v) x 3 true).run prog w= .ok (.tuple #[v,.bool true]) w:=zP (d:=_) underlying3 rfl v x w
@[go_sem] theorem zwT (v:Value)(x:TypeId)(w:World):(Instr.typeAssert (.iface 3 v) x 3 false).run prog w= .ok v w:=zH (d:=_) underlying3 rfl v x w
@[go_sem] theorem zu8 (t:TypeId)(ht:(t==3)=false)(v:Value)(x:TypeId)(w:World):(Instr.typeAssert (.iface t v) x 3 true).run prog w= .ok (.tuple #[.int .i64 0,.bool false]) w:=zI (d:=_) underlying3 rfl (by kernel_rfl) (by simpa using ht) v x w
@[go_sem] theorem zwU (x:TypeId)(w:World):(Instr.typeAssert .nilIface x 3 true).run prog w= .ok (.tuple #[.int .i64 0,.bool false]) w:=zS (d:=_) underlying3 rfl (by kernel_rfl) x w
@[go_sem] theorem zu9 (v:Value)(x:TypeId)(w:World):(Instr.typeAssert (.iface 4 v) x 4 true).run prog w= .ok (.tuple #[v,.bool true]) w:=zP (d:=_) underlying4 rfl v x w
@[go_sem] theorem zvH (v:Value)(x:TypeId)(w:World):(Instr.typeAssert (.iface 4 v) x 4 false).run prog w= .ok v w:=zH (d:=_) underlying4 rfl v x w
@[go_sem] theorem ztI (t:TypeId)(ht:(t==4)=false)(v:Value)(x:TypeId)(w:World):(Instr.typeAssert (.iface t v) x 4 true).run prog w= .ok (.tuple #[.bool false,.bool false]) w:=zI (d:=_) underlying4 rfl (by kernel_rfl) (by simpa using ht) v x w
@[go_sem] theorem zvI (x:TypeId)(w:World):(Instr.typeAssert .nilIface x 4 true).run prog w= .ok (.tuple #[.bool false,.bool false]) w:=zS (d:=_) underlying4 rfl (by kernel_rfl) x w
@[go_sem] theorem zwV (v:Value)(x:TypeId)(w:World):(Instr.typeAssert (.iface 5 v) x 5 true).run prog w= .ok (.tuple #[v,.bool true]) w:=zP (d:=_) underlying5 rfl v x w
@[go_sem] theorem zxs (v:Value)(x:TypeId)(w:World):(Instr.typeAssert (.iface 5 v) x 5 false).run prog w= .ok v w:=zH (d:=_) underlying5 rfl v x w
@[go_sem] theorem zvJ (t:TypeId)(ht:(t==5)=false)(v:Value)(x:TypeId)(w:World):(Instr.typeAssert (.iface t v) x 5 true).run prog w= .ok (.tuple #[.int .u8 0,.bool false]) w:=zI (d:=_) underlying5 rfl (by kernel_rfl) (by simpa using ht) v x w
@[go_sem] theorem zxt (x:TypeId)(w:World):(Instr.typeAssert .nilIface x 5 true).run prog w= .ok (.tuple #[.int .u8 0,.bool false]) w:=zS (d:=_) underlying5 rfl (by kernel_rfl) x w
@[go_sem] theorem zvK (v:Value)(x:TypeId)(w:World):(Instr.typeAssert (.iface 9 v) x 9 true).run prog w= .ok (.tuple #[v,.bool true]) w:=zP (d:=_) underlying9 rfl v x w
@[go_sem] theorem zwW (v:Value)(x:TypeId)(w:World):(Instr.typeAssert (.iface 9 v) x 9 false).run prog w= .ok v w:=zH (d:=_) underlying9 rfl v x w
@[go_sem] theorem zva (t:TypeId)(ht:(t==9)=false)(v:Value)(x:TypeId)(w:World):(Instr.typeAssert (.iface t v) x 9 true).run prog w= .ok (.tuple #[.string ⟨#[]⟩,.bool false]) w:=zI (d:=_) underlying9 rfl (by kernel_rfl) (by simpa using ht) v x w
@[go_sem] theorem zwX (x:TypeId)(w:World):(Instr.typeAssert .nilIface x 9 true).run prog w= .ok (.tuple #[.string ⟨#[]⟩,.bool false]) w:=zS (d:=_) underlying9 rfl (by kernel_rfl) x w
@[go_sem] theorem zvL (v:Value)(x:TypeId)(w:World):(Instr.typeAssert (.iface 385 v) x 385 true).run prog w= .ok (.tuple #[v,.bool true]) w:=zP (d:=_) underlying385 rfl v x w
@[go_sem] theorem zwY (v:Value)(x:TypeId)(w:World):(Instr.typeAssert (.iface 385 v) x 385 false).run prog w= .ok v w:=zH (d:=_) underlying385 rfl v x w
@[go_sem] theorem zvb (t:TypeId)(ht:(t==385)=false)(v:Value)(x:TypeId)(w:World):(Instr.typeAssert (.iface t v) x 385 true).run prog w= .ok (.tuple #[.int .u32 0,.bool false]) w:=zI (d:=_) underlying385 rfl (by kernel_rfl) (by simpa using ht) v x w
@[go_sem] theorem zwZ (x:TypeId)(w:World):(Instr.typeAssert .nilIface x 385 true).run prog w= .ok (.tuple #[.int .u32 0,.bool false]) w:=zS (d:=_) underlying385 rfl (by kernel_rfl) x w
@[go_sem] theorem zvM (v:Value)(x:TypeId)(w:World):(Instr.typeAssert (.iface 431 v) x 431 true).run prog w= .ok (.tuple #[v,.bool true]) w:=zP (d:=_) underlying431 rfl v x w
@[go_sem] theorem zw0 (v:Value)(x:TypeId)(w:World):(Instr.typeAssert (.iface 431 v) x 431 false).run prog w= .ok v w:=zH (d:=_) underlying431 rfl v x w
@[go_sem] theorem zvc (t:TypeId)(ht:(t==431)=false)(v:Value)(x:TypeId)(w:World):(Instr.typeAssert (.iface t v) x 431 true).run prog w= .ok (.tuple #[.float .f32 0,.bool false]) w:=zI (d:=_) underlying431 rfl (by kernel_rfl) (by simpa using ht) v x w
@[go_sem] theorem zw1 (x:TypeId)(w:World):(Instr.typeAssert .nilIface x 431 true).run prog w= .ok (.tuple #[.float .f32 0,.bool false]) w:=zS (d:=_) underlying431 rfl (by kernel_rfl) x w
@[go_sem] theorem zw2 (v:Value)(x:TypeId)(w:World):(Instr.typeAssert (.iface 433 v) x 433 true).run prog w= .ok (.tuple #[v,.bool true]) w:=zP (d:=_) underlying433 rfl v x w
@[go_sem] theorem zxu (v:Value)(x:TypeId)(w:World):(Instr.typeAssert (.iface 433 v) x 433 false).run prog w= .ok v w:=zH (d:=_) underlying433 rfl v x w
@[go_sem] theorem zvN (t:TypeId)(ht:(t==433)=false)(v:Value)(x:TypeId)(w:World):(Instr.typeAssert (.iface t v) x 433 true).run prog w= .ok (.tuple #[.int .i8 0,.bool false]) w:=zI (d:=_) underlying433 rfl (by kernel_rfl) (by simpa using ht) v x w
@[go_sem] theorem zxv (x:TypeId)(w:World):(Instr.typeAssert .nilIface x 433 true).run prog w= .ok (.tuple #[.int .i8 0,.bool false]) w:=zS (d:=_) underlying433 rfl (by kernel_rfl) x w
@[go_sem] theorem zvO (v:Value)(x:TypeId)(w:World):(Instr.typeAssert (.iface 435 v) x 435 true).run prog w= .ok (.tuple #[v,.bool true]) w:=zP (d:=_) underlying435 rfl v x w
@[go_sem] theorem zw3 (v:Value)(x:TypeId)(w:World):(Instr.typeAssert (.iface 435 v) x 435 false).run prog w= .ok v w:=zH (d:=_) underlying435 rfl v x w
@[go_sem] theorem zvd (t:TypeId)(ht:(t==435)=false)(v:Value)(x:TypeId)(w:World):(Instr.typeAssert (.iface t v) x 435 true).run prog w= .ok (.tuple #[.int .i16 0,.bool false]) w:=zI (d:=_) underlying435 rfl (by kernel_rfl) (by simpa using ht) v x w
@[go_sem] theorem zw4 (x:TypeId)(w:World):(Instr.typeAssert .nilIface x 435 true).run prog w= .ok (.tuple #[.int .i16 0,.bool false]) w:=zS (d:=_) underlying435 rfl (by kernel_rfl) x w
@[go_sem] theorem zve (v:Value)(x:TypeId)(w:World):(Instr.typeAssert (.iface 317 v) x 317 true).run prog w= .ok (.tuple #[v,.bool true]) w:=zP (d:=_) underlying317 rfl v x w
@[go_sem] theorem zvP (v:Value)(x:TypeId)(w:World):(Instr.typeAssert (.iface 317 v) x 317 false).run prog w= .ok v w:=zH (d:=_) underlying317 rfl v x w
@[go_sem] theorem ztJ (t:TypeId)(ht:(t==317)=false)(v:Value)(x:TypeId)(w:World):(Instr.typeAssert (.iface t v) x 317 true).run prog w= .ok (.tuple #[.int .u64 0,.bool false]) w:=zI (d:=_) underlying317 rfl (by kernel_rfl) (by simpa using ht) v x w
@[go_sem] theorem zvQ (x:TypeId)(w:World):(Instr.typeAssert .nilIface x 317 true).run prog w= .ok (.tuple #[.int .u64 0,.bool false]) w:=zS (d:=_) underlying317 rfl (by kernel_rfl) x w
@[go_sem] theorem zvR (v:Value)(x:TypeId)(w:World):(Instr.typeAssert (.iface 440 v) x 440 true).run prog w= .ok (.tuple #[v,.bool true]) w:=zP (d:=_) underlying440 rfl v x w
@[go_sem] theorem zw5 (v:Value)(x:TypeId)(w:World):(Instr.typeAssert (.iface 440 v) x 440 false).run prog w= .ok v w:=zH (d:=_) underlying440 rfl v x w
@[go_sem] theorem zvf (t:TypeId)(ht:(t==440)=false)(v:Value)(x:TypeId)(w:World):(Instr.typeAssert (.iface t v) x 440 true).run prog w= .ok (.tuple #[.int .u16 0,.bool false]) w:=zI (d:=_) underlying440 rfl (by kernel_rfl) (by simpa using ht) v x w
@[go_sem] theorem zw6 (x:TypeId)(w:World):(Instr.typeAssert .nilIface x 440 true).run prog w= .ok (.tuple #[.int .u16 0,.bool false]) w:=zS (d:=_) underlying440 rfl (by kernel_rfl) x w
theorem AProc.frz {P:Program}{f:FuncId}{args args':List Av}{own own':List (Nat×Ow)}{R:Av→List (Nat×Ow)→Prop}(F:List Nat)(h:AProc P f args' own' R)(ho:(St.mk [] own).frz P F=⟨[],own'⟩)(ha:args.map (zc6 P F (zd own))=args'):AProc P f args own R:=
 ⟨h.1,fun w E β vs s hv=>by
  have k:=s.frzAll F
  have k2:=k.2
  rw[ho] at k k2
  refine h.2 w E β vs k.1 ?_
  subst ha
  refine All2.of (by rw[List.length_map];exact hv.length) fun i x v hx hy=>?_
  rw[List.getElem?_map] at hx
  obtain ⟨y,hy',rfl⟩:=Option.map_eq_some_iff.1 hx
  obtain ⟨u,hu,hr⟩:=hv.at hy'
  rw[hy] at hu;cases hu
  exact k2 y v hr⟩
end Go.Smd
end
