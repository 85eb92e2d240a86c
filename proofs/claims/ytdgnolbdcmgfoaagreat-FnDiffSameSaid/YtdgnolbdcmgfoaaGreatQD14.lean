/- Part 14. -/
import Derived.Test.YtdgnolbdcmgfoaaGreatQD13
import Derived.Test.YtdgnolbdcmgfoaaGreatQD11
import Derived.Test.YtdgnolbdcmgfoaaGreatQD10
import Derived.Test.YtdgnolbdcmgfoaaGreatQD08
set_option linter.unusedVariables false
set_option linter.unusedSimpArgs false
set_option maxRecDepth 100000
set_option maxHeartbeats 8000000
section
namespace Go.Smd
open Go.RowKit Go.Proofs Go.Proofs.Tryz
theorem zl6 (kind n:Int)(f:Nat)(s:ByteArray)(fs:List (ByteArray×GV))(key:ByteArray)(v:GV)(cs cv:List Value)(w:World)(S:Nat→Prop)
  (hm:RepGV S w (.mk kind n f s (fs.map (·.1)) (fs.map (·.2))) cs) (hv:RepGV S w v cv) (hsort:Z0 fs) (hroom:(fs.length+1)*88≤140737488351232) (hkey:key.size≤140737488351232):
  Calls prog 26 #[.agg cs.toArray,.string key,.agg cv.toArray] w (Makes (fun W u=>∃cs',u= .agg cs'.toArray∧RepGV (fun b=>S b∨w.heap.size≤b) W (zc7 (zaq key v fs)) cs') w):=by
 have hm0:=hm.lt
 have hv0:=hv.lt
 obtain ⟨ka,kc,la,lc,rfl,ok,hkc,hlc,hks,hls⟩:=hm0.open
 have hm1:=Lib.hid hm
 obtain ⟨d0,d1,d2,d3,d4,d5,rfl⟩:∃d0 d1 d2 d3 d4 d5,cv= [d0,d1,d2,d3,d4,d5]:=by
  match cv,hv.length with
  | [d0,d1,d2,d3,d4,d5],_=>exact ⟨d0,d1,d2,d3,d4,d5,rfl⟩
 obtain ⟨o0,o1,o2,o3,o4,o5⟩:=hv.six
 obtain ⟨m,hmdef⟩:∃m,zb4 key (fs.map (·.1))=m:=⟨_,rfl⟩
 have hml:=zlT key (fs.map (·.1))
 rw[hmdef] at hml
 obtain ⟨nk,hnk⟩:∃n,fs.length=n:=⟨_,rfl⟩
 simp only [List.length_map,hnk] at hml hkc hlc hroom ⊢
 obtain ⟨ok',hokd⟩:∃b:Bool,decide ((fs.map (·.1))[m]? =some key)=b:=⟨_,rfl⟩
 have HFS:Hid (∀ks ls,fs.map (·.1)=ks→fs.map (·.2)=ls→ks=fs.map (·.1)∧ls=fs.map (·.2)):=fun ks ls h1 h2=>⟨h1.symm,h2.symm⟩
 have HS:=Lib.hid hsort
 have hkl:(fs.map (·.1)).length=nk:=by simp [hnk]
 have hll:(fs.map (·.2)).length=nk:=by simp [hnk]
 have hsort':(fs.map (·.1)).Pairwise fun a b=>blt a b=true:=hsort
 clear hsort
 generalize hK:fs.map (·.1)=ks at*
 generalize hL:fs.map (·.2)=ls at*
 have HK:=Lib.hid hK;have HL:=Lib.hid hL;have Hkl:=Lib.hid hkl;have Hll:=Lib.hid hll;have HSo:=Lib.hid hsort'
 have Hm:=Lib.hid hmdef;have Hn:=Lib.hid hnk;have Ho:=Lib.hid hokd
 have Hok:=Lib.hid ok
 clear hm hv hmdef hnk hokd ok hK hL hkl hll hsort' HFS
 go_enter func26,ntmps26
 go_wp2_with fail
 have hE0:Ext w (((w.alloc (.cells #[.int .i64 kind,.int .i64 n,.float .f64 f,.string s,.slice ka nk kc,.slice la nk lc] 27)).alloc (.cells #[d0,d1,d2,d3,d4,d5] 27)).alloc (.cells #[.int .i64 0,.int .i64 0,.float .f64 0,.string ⟨#[]⟩,.slice none 0 0,.slice none 0 0] 27)):=(((Ext.refl w).alloc _).alloc _).alloc _
 have hb0:=zeq (.cells #[.int .i64 0,.int .i64 0,.float .f64 0,.string ⟨#[]⟩,.slice none 0 0,.slice none 0 0] 27) (zeq (.cells #[d0,d1,d2,d3,d4,d5] 27) (zbP (w:=w) (.cells #[.int .i64 kind,.int .i64 n,.float .f64 f,.string s,.slice ka nk kc,.slice la nk lc] 27) rfl))
 have hb1:=zeq (.cells #[.int .i64 0,.int .i64 0,.float .f64 0,.string ⟨#[]⟩,.slice none 0 0,.slice none 0 0] 27) (zbP (w:=w.alloc (.cells #[.int .i64 kind,.int .i64 n,.float .f64 f,.string s,.slice ka nk kc,.slice la nk lc] 27)) (.cells #[d0,d1,d2,d3,d4,d5] 27) (zz w _))
 have hb2:=zbP (w:=(w.alloc (.cells #[.int .i64 kind,.int .i64 n,.float .f64 f,.string s,.slice ka nk kc,.slice la nk lc] 27)).alloc (.cells #[d0,d1,d2,d3,d4,d5] 27)) (.cells #[.int .i64 0,.int .i64 0,.float .f64 0,.string ⟨#[]⟩,.slice none 0 0,.slice none 0 0] 27) (by rw[zz,zz])
 refine (zkY kind n f s ks ls key [.int .i64 kind,.int .i64 n,.float .f64 f,.string s,.slice ka nk kc,.slice la nk lc] _ _ (by have:=hm1.out.ext hE0;rw[Hkl.out,Hll.out] at this;exact this) HSo.out).mono ?_
 rintro e w1 ⟨u,rfl,hu,hE1⟩
 rw[Hm.out,Ho.out] at hu
 subst hu
 have hE1':=hE0.trans hE1
 have hb0':=hE1.heap hb0;have hb1':=hE1.heap hb1;have hb2':=hE1.heap hb2
 clear hE0 hb0 hb1 hb2 hE1
 go_wp2
 have HO:OutSt w1 (fun b=>S b∧b<w.heap.size) w1.heap.size (w1.alloc (.cells #[.int .i64 6,.int .i64 0,.float .f64 0,.string ⟨#[]⟩,.slice none 0 0,.slice none 0 0] 27)) (.slice none 0 0) (.slice none 0 0) [] []:=
  ⟨Nat.le_refl _,fun b hb=>by have:=hE1'.size;omega,(Ext.refl w1).alloc _,by rw[zz];omega,zbP _ rfl,Build.nil,Build.nil⟩
 have Hsz:=Lib.hid hE1'.size
 generalize hbo:w1.heap.size=bo at HO Hsz ⊢
 generalize w1.alloc (.cells #[.int .i64 6,.int .i64 0,.float .f64 0,.string ⟨#[]⟩,.slice none 0 0,.slice none 0 0] 27)=w2 at HO ⊢
 have Hbo:=Lib.hid hbo;clear hbo
 have Hb0:=Lib.hid hb0';have Hb1:=Lib.hid hb1';have Hb2:=Lib.hid hb2';have HE1:=Lib.hid hE1'
 clear hb0' hb1' hb2' hE1'
 have HO1:=Lib.hid HO;clear HO
 have hml1:(m:Int)≤(kc:Int):=by omega
 have hml2:(m:Int)≤(lc:Int):=by omega
 have hml0:(0:Int)≤(m:Int):=by omega
 have Hks:=Lib.hid hks;have Hls:=Lib.hid hls;have Hv:=Lib.hid hv0
 clear hks hls hv0
 have ck:=zh HO1.out.out (i:=4) rfl
 have c4:=HO1.out.ext.cell (zh Hb0.out (i:=4) rfl)
 refine ZF [6,8] (by kernel_rfl) ?_
 refine ZA (listed':=lst 9 [0,1,2,3,4,5]) [0,1,2,3,4,5] 3 (by kernel_rfl) (fun _ _ _ _ h=>h) (by kernel_rfl) rfl (by kernel_rfl) ?_
 repeat (refine zV rfl ?_;go_big_quiet_step (fail);refine wpQuiet_nil ?_)
 refine Zf ?_
 obtain ⟨_,w3,hrun,⟨A1,c1,rfl⟩,hc,hfz,HO⟩:=HO1.out.drew.appK (A:=ka) (n:=m) (c:=kc) (N:=m) (ys:=ks.take m) (by simp [Hkl.out];omega) (((RowOf.take ((Hks.out.ext HE1.out).ext HO1.out.drew.ext) m:RepStrs (fun b=>S b∧b<w.heap.size) _ _ _))) (by simp only [List.length_append,List.length_nil,List.length_take,List.length_drop,List.length_singleton,Hkl.out,Hll.out];omega) (by omega)
 have HR:=Lib.hid hrun;have HO2:=Lib.hid HO;clear hrun HO ck c4
 refine zca (n:=2) (i:=6) (listed':=lst 9 [0,1,2,3,4,5,6]) (by kernel_rfl) rfl rfl rfl (by kernel_rfl) ?_
 refine zR HR.out rfl rfl rfl rfl ?_
 refine zhU ?_
 simp only [Act.put,List.setIfInBounds_toArray,List.set_cons_zero,List.set_cons_succ]
 refine ZA (listed':=lst 9 [0,1,2,3,4,5,6,7]) [7] 1 (by kernel_rfl) (fun _ _ _ _ h=>h) (by kernel_rfl) rfl (by kernel_rfl) ?_
 repeat (refine zV rfl ?_;go_big_quiet_step (fail);refine wpQuiet_nil ?_)
 refine Zf ?_
 refine zca (n:=0) (i:=8) (listed':=lst 9 [0,1,2,3,4,5,6,7,8]) (by kernel_rfl) rfl rfl rfl (by kernel_rfl) ?_
 go_wp2
 refine zcf (by kernel_rfl) ?_
 clear hc hfz HR
 generalize w3.setCell ⟨bo,4,none⟩ (Value.slice A1 m c1)=w3' at HO2 ⊢
 go_wp2
 have ck:=zh HO2.out.out (i:=5) rfl
 have c4:=HO2.out.ext.cell (zh Hb0.out (i:=5) rfl)
 refine ZF [6,8] (by kernel_rfl) ?_
 refine ZA (listed':=lst 9 [0,1,2,3,4,5]) [0,1,2,3,4,5] 3 (by kernel_rfl) (fun _ _ _ _ h=>h) (by kernel_rfl) rfl (by kernel_rfl) ?_
 repeat (refine zV rfl ?_;go_big_quiet_step (fail);refine wpQuiet_nil ?_)
 refine Zf ?_
 obtain ⟨_,w4,hrun,⟨A2,c2,rfl⟩,hc,hfz,HO⟩:=HO2.out.drew.appL (A:=la) (n:=m) (c:=lc) (N:=m) (ys:=ls.take m) (by simp [Hll.out];omega) (((RowOf.take ((Hls.out.ext HE1.out).ext HO2.out.drew.ext) m:RepGVs (fun b=>S b∧b<w.heap.size) _ _ _))) (by simp only [List.length_append,List.length_nil,List.length_take,List.length_drop,List.length_singleton,Hkl.out,Hll.out];omega) (by omega)
 have HR:=Lib.hid hrun;have HO3:=Lib.hid HO;clear hrun HO ck c4
 refine zca (n:=2) (i:=6) (listed':=lst 9 [0,1,2,3,4,5,6]) (by kernel_rfl) rfl rfl rfl (by kernel_rfl) ?_
 refine zR HR.out rfl rfl rfl rfl ?_
 refine zhU ?_
 simp only [Act.put,List.setIfInBounds_toArray,List.set_cons_zero,List.set_cons_succ]
 refine ZA (listed':=lst 9 [0,1,2,3,4,5,6,7]) [7] 1 (by kernel_rfl) (fun _ _ _ _ h=>h) (by kernel_rfl) rfl (by kernel_rfl) ?_
 repeat (refine zV rfl ?_;go_big_quiet_step (fail);refine wpQuiet_nil ?_)
 refine Zf ?_
 refine zca (n:=0) (i:=8) (listed':=lst 9 [0,1,2,3,4,5,6,7,8]) (by kernel_rfl) rfl rfl rfl (by kernel_rfl) ?_
 go_wp2
 refine zcf (by kernel_rfl) ?_
 clear hc hfz HR
 generalize w4.setCell ⟨bo,5,none⟩ (Value.slice A2 m c2)=w4' at HO3 ⊢
 have ck:=zh HO3.out.out (i:=4) rfl
 obtain ⟨_,w5,hrun,⟨A3,c3,rfl⟩,hc,hfz,HO⟩:=HO3.out.pushK key (N:=m+1) (by simp [Hkl.out];omega) (by omega)
 have HR:=Lib.hid hrun;have HO4:=Lib.hid HO;clear hrun HO
 go_upto_region 6 with (at_builtin;refine zR HR.out rfl rfl rfl rfl ?_)
 clear HR hc hfz ck
 generalize w5.setCell ⟨bo,4,none⟩ (Value.slice A3 (m+1) c3)=w5' at HO4 ⊢
 have hd:=fun i (v:Value) (hi: #[d0,d1,d2,d3,d4,d5][i]? =some v)=>HO4.out.ext.cell (zh Hb1.out hi)
 have hd0:=hd 0 d0 rfl;have hd1:=hd 1 d1 rfl;have hd2:=hd 2 d2 rfl;have hd3:=hd 3 d3 rfl;have hd4:=hd 4 d4 rfl;have hd5:=hd 5 d5 rfl
 clear hd
 have cl:=zh HO4.out.out (i:=5) rfl
 obtain ⟨_,w6,hrun,⟨A4,c4,rfl⟩,hc,hfz,HO⟩:=HO4.out.pushL ((Hv.out.ext HE1.out).ext HO4.out.ext) (N:=m+1) (by simp [Hll.out];omega) (by omega)
 have HR:=Lib.hid hrun;have HO5:=Lib.hid HO;clear hrun HO
 go_upto_region 7 with (at_builtin;refine zR HR.out rfl rfl rfl rfl ?_)
 clear HR hc hfz cl hd0 hd1 hd2 hd3 hd4 hd5
 generalize w6.setCell ⟨bo,5,none⟩ (Value.slice A4 (m+1) c4)=w6' at HO5 ⊢
 cases ok' with
 |true=>
  have hlt:m<nk:=by have:=of_decide_eq_true Ho.out;have:=(List.getElem?_eq_some_iff.1 this).1;rw[Hkl.out] at this;exact this
  obtain ⟨A5,hcut,hA5⟩:=zdP (P:=prog) 24 9 (size:=1) underlying24 (by kernel_rfl) ka nk kc (m+1) ((m:Int)+1) (by omega) (by omega)
  obtain ⟨A6,hcut2,hA6⟩:=zdP (P:=prog) 23 27 (size:=6) underlying23 (by kernel_rfl) la nk lc (m+1) ((m:Int)+1) (by omega) (by omega)
  have HA5:Hid (∀W,RowOf zoI 1 (fun b=>S b∧b<w.heap.size) W ka ks→RowOf zoI 1 (fun b=>S b∧b<w.heap.size) W A5 (ks.drop (m+1))):=fun W h=>hA5 (by rw[Hkl.out];omega) h
  have HA6:Hid (∀W,RepGVs (fun b=>S b∧b<w.heap.size) W la ls→RepGVs (fun b=>S b∧b<w.heap.size) W A6 (ls.drop (m+1))):=fun W h=>hA6 (by rw[Hll.out];omega) h
  clear hA5 hA6
  go_wp2
  have ck:=zh HO5.out.out (i:=4) rfl
  have c4:=HO5.out.ext.cell (zh Hb0.out (i:=4) rfl)
  refine ZF [6,8] (by kernel_rfl) ?_
  refine ZA (listed':=lst 9 [0,1,2,3,4,5]) [0,1,2,3,4,5] 3 (by kernel_rfl) (fun _ _ _ _ h=>h) (by kernel_rfl) rfl (by kernel_rfl) ?_
  repeat (refine zV rfl ?_;go_big_quiet_step (fail);refine wpQuiet_nil ?_)
  refine Zf ?_
  obtain ⟨_,w7,hrun,⟨A7,c7,rfl⟩,hc,hfz,HO⟩:=HO5.out.drew.appK (A:=A5) (n:=nk - (m+1)) (c:=kc - (m+1)) (N:=m+1+(nk - (m+1))) (ys:=ks.drop (m+1)) (by simp [Hkl.out]) ((HA5.out _ ((Hks.out.ext HE1.out).ext HO5.out.drew.ext))) (by simp only [List.length_append,List.length_nil,List.length_take,List.length_drop,List.length_singleton,Hkl.out,Hll.out];omega) (by omega)
  have HR:=Lib.hid hrun;have HO6:=Lib.hid HO;clear hrun HO ck c4
  refine zca (n:=2) (i:=6) (listed':=lst 9 [0,1,2,3,4,5,6]) (by kernel_rfl) rfl rfl rfl (by kernel_rfl) ?_
  refine zR HR.out rfl rfl rfl rfl ?_
  refine zhU ?_
  simp only [Act.put,List.setIfInBounds_toArray,List.set_cons_zero,List.set_cons_succ]
  refine ZA (listed':=lst 9 [0,1,2,3,4,5,6,7]) [7] 1 (by kernel_rfl) (fun _ _ _ _ h=>h) (by kernel_rfl) rfl (by kernel_rfl) ?_
  repeat (refine zV rfl ?_;go_big_quiet_step (fail);refine wpQuiet_nil ?_)
  refine Zf ?_
  refine zca (n:=0) (i:=8) (listed':=lst 9 [0,1,2,3,4,5,6,7,8]) (by kernel_rfl) rfl rfl rfl (by kernel_rfl) ?_
  go_wp2
  refine zcf (by kernel_rfl) ?_
  clear hc hfz HR
  generalize w7.setCell ⟨bo,4,none⟩ (Value.slice A7 _ c7)=w7' at HO6 ⊢
  go_wp2
  have ck:=zh HO6.out.out (i:=5) rfl
  have c4:=HO6.out.ext.cell (zh Hb0.out (i:=5) rfl)
  refine ZF [6,8] (by kernel_rfl) ?_
  refine ZA (listed':=lst 9 [0,1,2,3,4,5]) [0,1,2,3,4,5] 3 (by kernel_rfl) (fun _ _ _ _ h=>h) (by kernel_rfl) rfl (by kernel_rfl) ?_
  repeat (refine zV rfl ?_;go_big_quiet_step (fail);refine wpQuiet_nil ?_)
  refine Zf ?_
  obtain ⟨_,w8,hrun,⟨A8,c8,rfl⟩,hc,hfz,HO⟩:=HO6.out.drew.appL (A:=A6) (n:=nk - (m+1)) (c:=lc - (m+1)) (N:=m+1+(nk - (m+1))) (ys:=ls.drop (m+1)) (by simp [Hll.out]) ((HA6.out _ ((Hls.out.ext HE1.out).ext HO6.out.drew.ext))) (by simp only [List.length_append,List.length_nil,List.length_take,List.length_drop,List.length_singleton,Hkl.out,Hll.out];omega) (by omega)
  have HR:=Lib.hid hrun;have HO7:=Lib.hid HO;clear hrun HO ck c4
  refine zca (n:=2) (i:=6) (listed':=lst 9 [0,1,2,3,4,5,6]) (by kernel_rfl) rfl rfl rfl (by kernel_rfl) ?_
  refine zR HR.out rfl rfl rfl rfl ?_
  refine zhU ?_
  simp only [Act.put,List.setIfInBounds_toArray,List.set_cons_zero,List.set_cons_succ]
  refine ZA (listed':=lst 9 [0,1,2,3,4,5,6,7]) [7] 1 (by kernel_rfl) (fun _ _ _ _ h=>h) (by kernel_rfl) rfl (by kernel_rfl) ?_
  repeat (refine zV rfl ?_;go_big_quiet_step (fail);refine wpQuiet_nil ?_)
  refine Zf ?_
  refine zca (n:=0) (i:=8) (listed':=lst 9 [0,1,2,3,4,5,6,7,8]) (by kernel_rfl) rfl rfl rfl (by kernel_rfl) ?_
  go_wp2
  refine zcf (by kernel_rfl) ?_
  clear hc hfz HR
  generalize w8.setCell ⟨bo,5,none⟩ (Value.slice A8 _ c8)=w8' at HO7 ⊢
  have e0:=zh HO7.out.out (i:=0) rfl
  have e1:=zh HO7.out.out (i:=1) rfl
  have e2:=zh HO7.out.out (i:=2) rfl
  have e3:=zh HO7.out.out (i:=3) rfl
  have e4:=zh HO7.out.out (i:=4) rfl
  have e5:=zh HO7.out.out (i:=5) rfl
  have hq:=fun i (v:Value) (hi: #[Value.int .i64 0,.int .i64 0,.float .f64 0,.string ⟨#[]⟩,.slice none 0 0,.slice none 0 0][i]? =some v)=>HO7.out.ext.cell (zh Hb2.out hi)
  have q0:=hq 0 _ rfl;have q1:=hq 1 _ rfl;have q2:=hq 2 _ rfl;have q3:=hq 3 _ rfl;have q4:=hq 4 _ rfl;have q5:=hq 5 _ rfl
  have hz:∀o,w8'.frozen? ⟨w.heap.size+1+1,o,none⟩=false:=fun o=>by simp [World.frozen?,HO7.out.ext.heap Hb2.out]
  clear hq
  go_wp2
  have HE9:Hid (Ext w (six w8' (w.heap.size+1+1) (.int .i64 6) (.int .i64 0) (.float .f64 0) (.string ⟨#[]⟩) (.slice A7 (m+1+(nk - (m+1))) c7) (.slice A8 (m+1+(nk - (m+1))) c8))):=zdd (HE1.out.trans HO7.out.ext) (by omega) _ _ _ _ _ _
  have HV9:Hid (RepGV (fun b=>S b∨w.heap.size≤b) (six w8' (w.heap.size+1+1) (.int .i64 6) (.int .i64 0) (.float .f64 0) (.string ⟨#[]⟩) (.slice A7 (m+1+(nk - (m+1))) c7) (.slice A8 (m+1+(nk - (m+1))) c8)) (zc7 (zaq key v fs)) [.int .i64 6,.int .i64 0,.float .f64 0,.string ⟨#[]⟩,.slice A7 (m+1+(nk - (m+1))) c7,.slice A8 (m+1+(nk - (m+1))) c8]):=by
   have hks:(zaq key v fs).map (·.1)= []++ks.take m++ [key]++ks.drop (m+1):=by
    rw[zc4,HK.out,Hm.out,if_pos (by simpa using Ho.out)];rw[←HK.out];simp [List.map_take,List.map_drop]
   have hls:(zaq key v fs).map (·.2)= []++ls.take m++ [v]++ls.drop (m+1):=by
    rw[zc4,HK.out,Hm.out,if_pos (by simpa using Ho.out)];rw[←HL.out];simp [List.map_take,List.map_drop]
   have hlen:(zaq key v fs).length≤nk+1:=by have:=zdh key v fs;rw[Hn.out] at this;exact this
   have hd:=HO7.out.done (by
    rw[←hks,←hls]
    refine ⟨by omega,by omega,by omega,Nat.zero_le _,by rw[List.length_map];omega,fun k hk=>?_,by rw[List.length_map];omega⟩
    rw[hks] at hk
    rcases List.mem_append.1 hk with hk|hk
    ·rcases List.mem_append.1 hk with hk|hk
     ·exact Hok.out.okEach k (List.mem_of_mem_take (by simpa using hk))
     ·simp at hk;rw[hk];exact hkey
    ·exact Hok.out.okEach k (List.mem_of_mem_drop hk))
   rw[←hks,←hls] at hd
   have hsz:=HE1.out.size
   have hb2:=(Array.getElem?_eq_some_iff.1 Hb2.out).1
   have hbo:=Hbo.out
   refine RepGV.frame (S':=fun b=>S b∨w.heap.size≤b) ((zbY w8' (w.heap.size+1+1) _ _ _ _ _ _).mono fun b hb=>?_) (fun b hb=>?_) hd
   ·rcases hb with hb|hb<;>omega
   ·rcases hb with hb|hb
    ·exact .inl hb.1
    ·exact .inr (by omega)
  clear HO7
  refine bodyPost_ret (v:=.agg #[.int .i64 6,.int .i64 0,.float .f64 0,.string ⟨#[]⟩,.slice A7 (m+1+(nk - (m+1))) c7,.slice A8 (m+1+(nk - (m+1))) c8]) (by simp [results,results26,go_sem,q0,q1,q2,q3,q4,q5]) rfl ?_
  exact ⟨_,rfl,⟨_,rfl,HV9.out⟩,HE9.out⟩
 |false=>
  have hlt:m≤nk:=hml
  obtain ⟨A5,hcut,hA5⟩:=zdP (P:=prog) 24 9 (size:=1) underlying24 (by kernel_rfl) ka nk kc (m) ((m:Int)) (by omega) (by omega)
  obtain ⟨A6,hcut2,hA6⟩:=zdP (P:=prog) 23 27 (size:=6) underlying23 (by kernel_rfl) la nk lc (m) ((m:Int)) (by omega) (by omega)
  have HA5:Hid (∀W,RowOf zoI 1 (fun b=>S b∧b<w.heap.size) W ka ks→RowOf zoI 1 (fun b=>S b∧b<w.heap.size) W A5 (ks.drop (m))):=fun W h=>hA5 (by rw[Hkl.out];omega) h
  have HA6:Hid (∀W,RepGVs (fun b=>S b∧b<w.heap.size) W la ls→RepGVs (fun b=>S b∧b<w.heap.size) W A6 (ls.drop (m))):=fun W h=>hA6 (by rw[Hll.out];omega) h
  clear hA5 hA6
  go_wp2
  have ck:=zh HO5.out.out (i:=4) rfl
  have c4:=HO5.out.ext.cell (zh Hb0.out (i:=4) rfl)
  refine ZF [6,8] (by kernel_rfl) ?_
  refine ZA (listed':=lst 9 [0,1,2,3,4,5]) [0,1,2,3,4,5] 3 (by kernel_rfl) (fun _ _ _ _ h=>h) (by kernel_rfl) rfl (by kernel_rfl) ?_
  repeat (refine zV rfl ?_;go_big_quiet_step (fail);refine wpQuiet_nil ?_)
  refine Zf ?_
  obtain ⟨_,w7,hrun,⟨A7,c7,rfl⟩,hc,hfz,HO⟩:=HO5.out.drew.appK (A:=A5) (n:=nk - (m)) (c:=kc - (m)) (N:=m+1+(nk - (m))) (ys:=ks.drop (m)) (by simp [Hkl.out]) ((HA5.out _ ((Hks.out.ext HE1.out).ext HO5.out.drew.ext))) (by simp only [List.length_append,List.length_nil,List.length_take,List.length_drop,List.length_singleton,Hkl.out,Hll.out];omega) (by omega)
  have HR:=Lib.hid hrun;have HO6:=Lib.hid HO;clear hrun HO ck c4
  refine zca (n:=2) (i:=6) (listed':=lst 9 [0,1,2,3,4,5,6]) (by kernel_rfl) rfl rfl rfl (by kernel_rfl) ?_
  refine zR HR.out rfl rfl rfl rfl ?_
  refine zhU ?_
  simp only [Act.put,List.setIfInBounds_toArray,List.set_cons_zero,List.set_cons_succ]
  refine ZA (listed':=lst 9 [0,1,2,3,4,5,6,7]) [7] 1 (by kernel_rfl) (fun _ _ _ _ h=>h) (by kernel_rfl) rfl (by kernel_rfl) ?_
  repeat (refine zV rfl ?_;go_big_quiet_step (fail);refine wpQuiet_nil ?_)
  refine Zf ?_
  refine zca (n:=0) (i:=8) (listed':=lst 9 [0,1,2,3,4,5,6,7,8]) (by kernel_rfl) rfl rfl rfl (by kernel_rfl) ?_
  go_wp2
  refine zcf (by kernel_rfl) ?_
  clear hc hfz HR
  generalize w7.setCell ⟨bo,4,none⟩ (Value.slice A7 _ c7)=w7' at HO6 ⊢
  go_wp2
  have ck:=zh HO6.out.out (i:=5) rfl
  have c4:=HO6.out.ext.cell (zh Hb0.out (i:=5) rfl)
  refine ZF [6,8] (by kernel_rfl) ?_
  refine ZA (listed':=lst 9 [0,1,2,3,4,5]) [0,1,2,3,4,5] 3 (by kernel_rfl) (fun _ _ _ _ h=>h) (by kernel_rfl) rfl (by kernel_rfl) ?_
  repeat (refine zV rfl ?_;go_big_quiet_step (fail);refine wpQuiet_nil ?_)
  refine Zf ?_
  obtain ⟨_,w8,hrun,⟨A8,c8,rfl⟩,hc,hfz,HO⟩:=HO6.out.drew.appL (A:=A6) (n:=nk - (m)) (c:=lc - (m)) (N:=m+1+(nk - (m))) (ys:=ls.drop (m)) (by simp [Hll.out]) ((HA6.out _ ((Hls.out.ext HE1.out).ext HO6.out.drew.ext))) (by simp only [List.length_append,List.length_nil,List.length_take,List.length_drop,List.length_singleton,Hkl.out,Hll.out];omega) (by omega)
  have HR:=Lib.hid hrun;have HO7:=Lib.hid HO;clear hrun HO ck c4
  refine zca (n:=2) (i:=6) (listed':=lst 9 [0,1,2,3,4,5,6]) (by kernel_rfl) rfl rfl rfl (by kernel_rfl) ?_
  refine zR HR.out rfl rfl rfl rfl ?_
  refine zhU ?_
  simp only [Act.put,List.setIfInBounds_toArray,List.set_cons_zero,List.set_cons_succ]
  refine ZA (listed':=lst 9 [0,1,2,3,4,5,6,7]) [7] 1 (by kernel_rfl) (fun _ _ _ _ h=>h) (by kernel_rfl) rfl (by kernel_rfl) ?_
  repeat (refine zV rfl ?_;go_big_quiet_step (fail);refine wpQuiet_nil ?_)
  refine Zf ?_
  refine zca (n:=0) (i:=8) (listed':=lst 9 [0,1,2,3,4,5,6,7,8]) (by kernel_rfl) rfl rfl rfl (by kernel_rfl) ?_
  go_wp2
  refine zcf (by kernel_rfl) ?_
  clear hc hfz HR
  generalize w8.setCell ⟨bo,5,none⟩ (Value.slice A8 _ c8)=w8' at HO7 ⊢
  have e0:=zh HO7.out.out (i:=0) rfl
  have e1:=zh HO7.out.out (i:=1) rfl
  have e2:=zh HO7.out.out (i:=2) rfl
  have e3:=zh HO7.out.out (i:=3) rfl
  have e4:=zh HO7.out.out (i:=4) rfl
  have e5:=zh HO7.out.out (i:=5) rfl
  have hq:=fun i (v:Value) (hi: #[Value.int .i64 0,.int .i64 0,.float .f64 0,.string ⟨#[]⟩,.slice none 0 0,.slice none 0 0][i]? =some v)=>HO7.out.ext.cell (zh Hb2.out hi)
  have q0:=hq 0 _ rfl;have q1:=hq 1 _ rfl;have q2:=hq 2 _ rfl;have q3:=hq 3 _ rfl;have q4:=hq 4 _ rfl;have q5:=hq 5 _ rfl
  have hz:∀o,w8'.frozen? ⟨w.heap.size+1+1,o,none⟩=false:=fun o=>by simp [World.frozen?,HO7.out.ext.heap Hb2.out]
  clear hq
  go_wp2
  have HE9:Hid (Ext w (six w8' (w.heap.size+1+1) (.int .i64 6) (.int .i64 0) (.float .f64 0) (.string ⟨#[]⟩) (.slice A7 (m+1+(nk - (m))) c7) (.slice A8 (m+1+(nk - (m))) c8))):=zdd (HE1.out.trans HO7.out.ext) (by omega) _ _ _ _ _ _
  have HV9:Hid (RepGV (fun b=>S b∨w.heap.size≤b) (six w8' (w.heap.size+1+1) (.int .i64 6) (.int .i64 0) (.float .f64 0) (.string ⟨#[]⟩) (.slice A7 (m+1+(nk - (m))) c7) (.slice A8 (m+1+(nk - (m))) c8)) (zc7 (zaq key v fs)) [.int .i64 6,.int .i64 0,.float .f64 0,.string ⟨#[]⟩,.slice A7 (m+1+(nk - (m))) c7,.slice A8 (m+1+(nk - (m))) c8]):=by
   have hks:(zaq key v fs).map (·.1)= []++ks.take m++ [key]++ks.drop (m):=by
    rw[zc4,HK.out,Hm.out,if_neg (by simpa using Ho.out)];rw[←HK.out];simp [List.map_take,List.map_drop]
   have hls:(zaq key v fs).map (·.2)= []++ls.take m++ [v]++ls.drop (m):=by
    rw[zc4,HK.out,Hm.out,if_neg (by simpa using Ho.out)];rw[←HL.out];simp [List.map_take,List.map_drop]
   have hlen:(zaq key v fs).length≤nk+1:=by have:=zdh key v fs;rw[Hn.out] at this;exact this
   have hd:=HO7.out.done (by
    rw[←hks,←hls]
    refine ⟨by omega,by omega,by omega,Nat.zero_le _,by rw[List.length_map];omega,fun k hk=>?_,by rw[List.length_map];omega⟩
    rw[hks] at hk
    rcases List.mem_append.1 hk with hk|hk
    ·rcases List.mem_append.1 hk with hk|hk
     ·exact Hok.out.okEach k (List.mem_of_mem_take (by simpa using hk))
     ·simp at hk;rw[hk];exact hkey
    ·exact Hok.out.okEach k (List.mem_of_mem_drop hk))
   rw[←hks,←hls] at hd
   have hsz:=HE1.out.size
   have hb2:=(Array.getElem?_eq_some_iff.1 Hb2.out).1
   have hbo:=Hbo.out
   refine RepGV.frame (S':=fun b=>S b∨w.heap.size≤b) ((zbY w8' (w.heap.size+1+1) _ _ _ _ _ _).mono fun b hb=>?_) (fun b hb=>?_) hd
   ·rcases hb with hb|hb<;>omega
   ·rcases hb with hb|hb
    ·exact .inl hb.1
    ·exact .inr (by omega)
  clear HO7
  refine bodyPost_ret (v:=.agg #[.int .i64 6,.int .i64 0,.float .f64 0,.string ⟨#[]⟩,.slice A7 (m+1+(nk - (m))) c7,.slice A8 (m+1+(nk - (m))) c8]) (by simp [results,results26,go_sem,q0,q1,q2,q3,q4,q5]) rfl ?_
  exact ⟨_,rfl,⟨_,rfl,HV9.out⟩,HE9.out⟩
def z8:List ByteArray→List GV→List (ByteArray×GV)→List (ByteArray×GV)
 |k::ks,v::vs,m=>z8 ks vs (zaq k v m)
 |_,_,m=>m
mutual
def zL:GV→GV
 | .mk kind n f s keys l=>
  if kind=1 then .mk 1 (if n=0 then 0 else 1) 0 ⟨#[]⟩ [] [] else if kind=2 then .mk 2 n 0 ⟨#[]⟩ [] [] else if kind=3 then .mk 3 0 f ⟨#[]⟩ [] []
  else if kind=4 then .mk 4 0 0 s [] [] else if kind=5 then .mk 5 0 0 ⟨#[]⟩ [] (cleans l) else if kind=6 then zc7 (z8 keys (cleans l) []) else .mk 0 0 0 ⟨#[]⟩ [] []
def cleans:List GV→List GV
 | []=>[]
 |x::l=>zL x::cleans l
end
theorem zau:∀l,cleans l=l.map zL
 | []=>by simp [cleans]
 |x::l=>by simp [cleans,zau l]
theorem ze5:∀(ks:List ByteArray) (vs:List GV) (m:List (ByteArray×GV)),(z8 ks vs m).length≤m.length+min ks.length vs.length
 | [],vs,m=>by simp [z8]
 |k::ks,[],m=>by simp [z8]
 |k::ks,v::vs,m=>by
  simp only [z8]
  have h1:=ze5 ks vs (zaq k v m)
  have h2:=zdh k v m
  simp;omega
theorem zdp:∀(ks:List ByteArray) (vs:List GV) (m:List (ByteArray×GV)),Z0 m→Z0 (z8 ks vs m)
 | [],vs,m,h=>by simpa [z8] using h
 |k::ks,[],m,h=>by simpa [z8] using h
 |k::ks,v::vs,m,h=>by simp only [z8];exact zdp ks vs _ (Zj h)
theorem zgU:∀(ks:List ByteArray) (vs:List GV) (m:List (ByteArray×GV)) (i:Nat) (k:ByteArray) (v:GV),ks[i]? =some k→vs[i]? =some v→
  z8 (ks.take (i+1)) (vs.take (i+1)) m=zaq k v (z8 (ks.take i) (vs.take i) m)
 | [],_,_,i,_,_,h,_=>by simp at h
 |_::_,[],_,i,_,_,_,h=>by simp at h
 |q::ks,u::vs,m,0,k,v,hk,hv=>by
  simp at hk hv;subst hk;subst hv
  simp [z8]
 |q::ks,u::vs,m,i+1,k,v,hk,hv=>by
  simp only [List.take_succ_cons,z8]
  exact zgU ks vs (zaq q u m) i k v (by simpa using hk) (by simpa using hv)
theorem zeA:∀(ks:List ByteArray) (vs:List GV) (m:List (ByteArray×GV)) (i:Nat),(ks.length≤i∨vs.length≤i)→z8 (ks.take i) (vs.take i) m=z8 ks vs m
 | [],vs,m,i,_=>by simp [z8]
 |k::ks,[],m,i,_=>by cases i<;>simp [z8]
 |k::ks,v::vs,m,0,h=>by simp at h
 |k::ks,v::vs,m,i+1,h=>by
  simp only [List.take_succ_cons,z8]
  exact zeA ks vs _ i (by simpa using h)
def zoc (S:Nat→Prop)(v:GV)(w:World):Ending→World→Prop:=Makes (fun W u=>∃cs,u= .agg cs.toArray∧RepGV S W v cs) w
def znj (v:GV):Prop:=∀(cs:List Value) (w:World) (S:Nat→Prop),RepGV S w v cs→Calls prog 23 #[.agg cs.toArray] w (zoc (w.heap.size≤ ·) (zL v) w)
theorem RowOf.toGVs {S T:Nat→Prop}{w:World}{A:Option Addr}{l:List GV}(h:RowOf (RG w T) 6 S w A l)(hT:∀b,T b→S b):RepGVs S w A l:=RowOf.frame h (fun _ _=>rfl) (fun _ h=>h) fun _ _ _ k=>RepGV.mono k hT
theorem zh8 (l:List GV)(IH:∀x∈l,znj x)(A:Option Addr)(n c:Nat)(w:World)(S:Nat→Prop)(hl:RepGVs S w A l)(hn:l.length=n)(hb:n*88≤140737488351232):
  Calls prog 75 #[.slice A n c] w (Makes (fun W u=>∃A' c',u= .slice A' n c'∧n≤c'∧RepGVs (w.heap.size≤ ·) W A' (cleans l)) w):=by
 have Hn:=Lib.hid hn;clear hn
 obtain ⟨cur,hmk,hB⟩:=Build.make (P:=prog) (R:=RG) (S:=(w.heap.size≤ ·)) (T:=(w.heap.size≤ ·)) underlying23 zfC (by omega) w n (by omega) (Nat.le_refl _)
 have HB:=Lib.hid hB;clear hB
 go_enter func75,ntmps75
 go_wp2
 clear hmk
 go_loopw [3,11] (fun v i wr=>∃k:Nat,k≤n∧i= .int .i64 k∧Hid (Ext w wr)∧Hid (Build RG 27 6 (w.heap.size≤ ·) (w.heap.size≤ ·) wr v (cleans (l.take k)))) (fun _ i _=>n - (intOf i).toNat)
 case atStart=>exact ⟨0,Nat.zero_le _,rfl,(Ext.refl w).alloc _,HB⟩
 case round=>
  obtain ⟨k,hk,rfl,hE,hB⟩:=hrel
  by_cases hlt:k<n
  ·obtain ⟨x,hx⟩:∃x,l[k]? =some x:=⟨l[k]'(by rw[Hn.out];exact hlt),List.getElem?_eq_getElem _⟩
   obtain ⟨bd,d0,d1,d2,d3,d4,d5,rfl,_,hxr,hxc⟩:=(hl.ext hE.out).at hx
   have Hx:=Lib.hid hx;clear hx
   obtain ⟨pa,hpa⟩:∃pa,bd.add (k*6)=pa:=⟨_,rfl⟩
   rw[hpa] at hxc
   obtain ⟨e0,e1,e2,e3,e4,e5⟩:=hxc.six
   obtain ⟨o0,o1,o2,o3,o4,o5⟩:=hxr.six
   go_wp2_with fail
   refine (IH x (List.mem_of_getElem? Hx.out) [d0,d1,d2,d3,d4,d5] _ S (hxr.ext ((Ext.refl _).alloc _))).mono ?_
   rintro e w1 ⟨u,rfl,⟨cs,rfl,hu⟩,hE1⟩
   obtain ⟨f0,f1,f2,f3,f4,f5,rfl⟩:=hu.list6
   obtain ⟨p0,p1,p2,p3,p4,p5⟩:=hu.six
   have hsz:=hE.out.size
   have hE2:Ext wr w1:=((Ext.refl wr).alloc _).trans hE1
   have hsz1:=hE1.size
   rw[zz] at hsz1
   have hB1:=hB.out.ext zbI hE2
   have hlk:=hB.out
   obtain ⟨v2,w2,hrun,hB2,hg,hat,A2,c2,hv2⟩:=Build.push (P:=prog) zbI (t:=23) (ty:=23) underlying23 zfC rfl (by omega) (by omega) hB1 (y:=zL x) (ys:=[f0,f1,f2,f3,f4,f5]) (hu.mono fun b hb=>by
    rw[zz] at hb
    exact ⟨by omega,fun hc=>by have:=hlk.row_lt hc;omega⟩) rfl hu.ones (by omega) (by rw[zau,List.length_map,List.length_take];omega)
   have HB2:Hid (Build RG 27 6 (w.heap.size≤ ·) (w.heap.size≤ ·) w2 v2 (cleans (l.take (k+1)))):=by
    have:cleans (l.take (k+1))=cleans (l.take k)++ [zL x]:=by rw[List.take_add_one,Hx.out];simp [zau]
    rw[this];exact hB2
   have HE2:Hid (Ext w w2):=Below.grown (Below.trans hE.out (hE2.below hsz)) hg (by omega) fun b hb=>hlk.row_in hb
   rw[hv2] at hrun HB2
   have HR:=Lib.hid hrun
   clear hB2 hg hat hlk hB1 hB hE hu hE1 hE2 hv2 hrun
   go_wp2_with (at_builtin;go_must (refine zR HR.out rfl rfl rfl rfl ?_))
   go_roundw
   case rel=>exact ⟨k+1,by omega,by go_num,HE2,HB2⟩
   case measure=>simp [intOf];omega
  ·obtain ⟨A',c',rfl,hcap,hrow⟩:=hB.out.done zbI (by omega)
   have e:l.take k=l:=List.take_of_length_le (by rw[Hn.out];omega)
   have hlen:(cleans (l.take k)).length=n:=by rw[e,zau,List.length_map,Hn.out]
   rw[e] at hrow hcap
   rw[hlen]
   rw[zau,List.length_map,Hn.out] at hcap
   have HD:=Lib.hid (RowOf.toGVs hrow fun b h=>h)
   clear hrow hB e hlen
   go_wp2
   go_ret
   exact ⟨_,rfl,⟨A',c',rfl,hcap,HD.out⟩,hE.out⟩
theorem zi5 {fn:Func}{p:Tmp}(h:fn.results= #[.cell p 27]){tmps:Array Value}{w:World}{g:Nat}{t:TypeId}{c0 c1 c2 c3 c4 c5:Value}{fr:Nat×Nat}(hp:tmps.getD p undef= .pointer (some ⟨g,0,none⟩))(hg:w.heap[g]? =some (.cells #[c0,c1,c2,c3,c4,c5] t fr)):
  (results fn tmps).run prog w= .ok (.agg #[c0,c1,c2,c3,c4,c5]) w:=results_cell_row h tmps w g t _ fr _ hp hg underlying27 rfl (by kernel_rfl)
theorem zq9 {fs:List (ByteArray×GV)}(hn:fs.length*88≤140737488351232)(hk:∀p∈fs,p.1.size≤140737488351232):GVok 6 0 0 ⟨#[]⟩ (fs.map (·.1)) (fs.map (·.2)):=
 ⟨by omega,by omega,by omega,Nat.zero_le _,by rw[List.length_map];omega,fun k hkk=>by obtain ⟨p,hp,rfl⟩:=List.mem_map.1 hkk;exact hk p hp,by rw[List.length_map];omega⟩
theorem zh9 (kind n:Int)(f:Nat)(s:ByteArray)(keys:List ByteArray)(l:List GV)(IH:∀x∈l,znj x)(cs:List Value)(w:World)(S:Nat→Prop)(hv:RepGV S w (.mk kind n f s keys l) cs):
  Calls prog 76 #[.agg cs.toArray] w (zoc (w.heap.size≤ ·) (zc7 (z8 keys (cleans l) [])) w):=by
 obtain ⟨ka,kc,la,lc,rfl,ok,hkc,hlc,hks,hls⟩:=hv.open
 have h1:=ok.okKeys
 have h2:=ok.okL
 have Hkeach:=Lib.hid ok.okEach
 obtain ⟨nk,hnk⟩:∃n,keys.length=n:=⟨_,rfl⟩
 obtain ⟨nl,hnl⟩:∃n,l.length=n:=⟨_,rfl⟩
 have Hk:=Lib.hid hnk;have Hl:=Lib.hid hnl
 rw[hnk] at h1 hkc ⊢;rw[hnl] at h2 hlc ⊢
 have Hv:=Lib.hid hv
 clear hnk hnl ok hv
 go_enter func76,ntmps76
 go_wp2
 go_loopw [4] (fun i wr=>∃k:Nat,k≤nk∧k≤nl∧i= .int .i64 k∧Hid (Ext w wr∧wr.heap[w.heap.size]? =some (.cells #[.int .i64 kind,.int .i64 n,.float .f64 f,.string s,.slice ka nk kc,.slice la nl lc] 27 (0,0))∧wr.heap[w.heap.size+1]? =some (.cells #[.int .i64 0,.int .i64 0,.float .f64 0,.string ⟨#[]⟩,.slice none 0 0,.slice none 0 0] 27 (0,0)))∧w.heap.size+3≤wr.heap.size∧
  Hid (∃c0 c1 c2 c3 c4 c5,wr.heap[w.heap.size+2]? =some (.cells #[c0,c1,c2,c3,c4,c5] 27 (0,0))∧RepGV (w.heap.size+3≤ ·) wr (zc7 (z8 (keys.take k) ((cleans l).take k) [])) [c0,c1,c2,c3,c4,c5])) (fun i _=>nk - (intOf i).toNat)
 case atStart=>
  refine ⟨0,Nat.zero_le _,Nat.zero_le _,rfl,⟨(((Ext.refl w).alloc _).alloc _).alloc _,zeq _ (zeq _ (zbP _ rfl)),zeq _ (zbP _ (zz _ _))⟩,?_,?_⟩
  ·simp only [zz];omega
  ·exact ⟨_,_,_,_,_,_,zbP _ (by simp only [zz]),RepGV.close (keys:=[]) (l:=[]) (zq9 (fs:=[]) (by simp) (by simp)) (Nat.zero_le _) (Nat.zero_le _) RowOf.nil RowOf.nil⟩
 case round=>
  obtain ⟨k,hk1,hk2,rfl,hb,hsz,hout⟩:=hrel
  have f4:=zh hb.out.2.1 (i:=4) rfl
  have f5:=zh hb.out.2.1 (i:=5) rfl
  by_cases hlt:k<nk
  ·by_cases hlt2:k<nl
   ·obtain ⟨q,hq⟩:∃q,keys[k]? =some q:=⟨keys[k]'(by rw[Hk.out];exact hlt),List.getElem?_eq_getElem _⟩
    obtain ⟨x,hx⟩:∃x,l[k]? =some x:=⟨l[k]'(by rw[Hl.out];exact hlt2),List.getElem?_eq_getElem _⟩
    have hE:=hb.out.1
    obtain ⟨ad,rfl,cq⟩:=(hks.ext hE).at hq
    obtain ⟨bd,d0,d1,d2,d3,d4,d5,rfl,_,hxr,hxc⟩:=(hls.ext hE).at hx
    have Hq:=Lib.hid hq;have Hx:=Lib.hid hx;clear hq hx
    obtain ⟨pa,hpa⟩:∃pa,bd.add (k*6)=pa:=⟨_,rfl⟩
    rw[hpa] at hxc
    obtain ⟨e0,e1,e2,e3,e4,e5⟩:=hxc.six
    obtain ⟨o0,o1,o2,o3,o4,o5⟩:=hxr.six
    obtain ⟨c0,c1,c2,c3,c4,c5,hbo,hrep⟩:=hout.out
    have g0:=zh hbo (i:=0) rfl;have g1:=zh hbo (i:=1) rfl;have g2:=zh hbo (i:=2) rfl
    have g3:=zh hbo (i:=3) rfl;have g4:=zh hbo (i:=4) rfl;have g5:=zh hbo (i:=5) rfl
    have Hbo:=Lib.hid hbo;have Hrep:=Lib.hid hrep
    clear hbo hrep hE
    go_wp2
    have hk0:(0:Int)≤(k:Int):=by omega
    have hk3:(k:Int)<(nk:Int):=by omega
    have hk4:(k:Int)<(nl:Int):=by omega
    refine ZF [13] (by kernel_rfl) ?_
    refine ZA (listed':=lst 14 [0,1,2,3,4,5,6,7,8,9,10]) [0,1,2,3,4,5,6,7,8,9,10] 3 (by kernel_rfl) (fun _ _ _ _ h=>h) (by kernel_rfl) rfl (by kernel_rfl) ?_
    repeat (refine zV rfl ?_;go_big_quiet_step (fail);refine wpQuiet_nil ?_)
    refine Zf ?_
    obtain ⟨wd,hwd⟩:∃W,wr.drew=W:=⟨_,rfl⟩
    rw[hwd]
    have HEd:Hid (Ext wr wd):=by rw[←hwd];exact (Ext.refl wr).drew
    clear hwd
    refine zjC (n:=2) (i:=11) (listed':=lst 14 [0,1,2,3,4,5,6,7,8,9,10,11]) (by kernel_rfl) rfl rfl (by kernel_rfl) ?_
    go_wp2_with fail
    refine (IH x (List.mem_of_getElem? Hx.out) [d0,d1,d2,d3,d4,d5] _ S (hxr.ext HEd.out)).mono ?_
    rintro e w1 ⟨u,rfl,⟨cv,rfl,hu⟩,hE1⟩
    have hE02:=(hb.out.1.trans HEd.out).trans hE1
    have hsz2:=HEd.out.size
    have hsz3:=hE1.size
    go_wp2_with fail
    refine ⟨hE1,?_⟩
    refine zjC (n:=1) (i:=12) (listed':=lst 14 [0,1,2,3,4,5,6,7,8,9,10,11,12]) (by kernel_rfl) rfl rfl (by kernel_rfl) ?_
    go_wp2_with fail
    refine (zl6 6 0 0 ⟨#[]⟩ (z8 (keys.take k) ((cleans l).take k) []) q (zL x) _ cv w1 (w.heap.size+3≤ ·) (Hrep.out.ext (HEd.out.trans hE1)) (hu.mono fun b hb=>by omega) (zdp _ _ _ .nil) (by have:=ze5 (keys.take k) ((cleans l).take k) [];simp only [List.length_take,List.length_nil] at this;omega) (Hkeach.out q (List.mem_of_getElem? Hq.out))).mono ?_
    rintro e w2 ⟨u,rfl,⟨cf,rfl,huf⟩,hE2⟩
    go_wp2_with fail
    refine ⟨hE2,?_⟩
    obtain ⟨f0,f1,f2,f3,f4,f5,rfl⟩:=huf.list6
    obtain ⟨p0,p1,p2,p3,p4,p5⟩:=huf.six
    have hE3:=(HEd.out.trans hE1).trans hE2
    have hbo2:=hE3.heap Hbo.out
    have hz:∀o,w2.frozen? ⟨w.heap.size+1+1,o,none⟩=false:=fun o=>by simp [World.frozen?,hbo2]
    have g0:=zh hbo2 (i:=0) rfl;have g1:=zh hbo2 (i:=1) rfl;have g2:=zh hbo2 (i:=2) rfl
    have g3:=zh hbo2 (i:=3) rfl;have g4:=zh hbo2 (i:=4) rfl;have g5:=zh hbo2 (i:=5) rfl
    have HB2:=Lib.hid hbo2;have HUF:=Lib.hid huf;have HE3:=Lib.hid hE3
    have hsz4:=hE3.size
    clear hbo2 huf hE3 hE1 hE2 hE02 hu
    refine zca (n:=0) (i:=13) (listed':=lst 14 [0,1,2,3,4,5,6,7,8,9,10,11,12,13]) (by kernel_rfl) rfl rfl rfl (by kernel_rfl) ?_
    go_wp2
    refine zcf (by kernel_rfl) ?_
    have e:(cleans l)[k]? =some (zL x):=by rw[zau];simp [Hx.out]
    have HN:Hid (∃c0 c1 c2 c3 c4 c5,(six w2 (w.heap.size+1+1) f0 f1 f2 f3 f4 f5).heap[w.heap.size+2]? =some (.cells #[c0,c1,c2,c3,c4,c5] 27 (0,0))∧RepGV (w.heap.size+3≤ ·) (six w2 (w.heap.size+1+1) f0 f1 f2 f3 f4 f5) (zc7 (z8 (keys.take (k+1)) ((cleans l).take (k+1)) [])) [c0,c1,c2,c3,c4,c5]):=by
     rw[zgU keys (cleans l) [] k q (zL x) Hq.out e]
     refine ⟨_,_,_,_,_,_,zgd HB2.out _ _ _ _ _ _,?_⟩
     exact RepGV.frame (S':=(w.heap.size+3≤ ·)) ((zbY w2 (w.heap.size+1+1) _ _ _ _ _ _).mono fun b hb=>by omega) (fun b hb=>by omega) HUF.out
    have HM:Hid (Ext w (six w2 (w.heap.size+1+1) f0 f1 f2 f3 f4 f5)∧(six w2 (w.heap.size+1+1) f0 f1 f2 f3 f4 f5).heap[w.heap.size]? =some (.cells #[.int .i64 kind,.int .i64 n,.float .f64 f,.string s,.slice (some ad) nk kc,.slice (some bd) nl lc] 27 (0,0))∧(six w2 (w.heap.size+1+1) f0 f1 f2 f3 f4 f5).heap[w.heap.size+1]? =some (.cells #[.int .i64 0,.int .i64 0,.float .f64 0,.string ⟨#[]⟩,.slice none 0 0,.slice none 0 0] 27 (0,0))):=
     ⟨zdd (hb.out.1.trans HE3.out) (by omega) _ _ _ _ _ _,(zbY w2 (w.heap.size+1+1) _ _ _ _ _ _ _ (by omega)).trans (HE3.out.heap hb.out.2.1),(zbY w2 (w.heap.size+1+1) _ _ _ _ _ _ _ (by omega)).trans (HE3.out.heap hb.out.2.2)⟩
    have hsz5:w.heap.size+3≤(six w2 (w.heap.size+1+1) f0 f1 f2 f3 f4 f5).heap.size:=by rw[zpZ];omega
    clear hout hb
    go_wp2
    go_roundw
    case rel=>exact ⟨k+1,by omega,by omega,by go_num,HM,hsz5,HN⟩
    case measure=>simp [intOf];omega
   ·have hk0:(0:Int)≤(k:Int):=by omega
    have hk3:(k:Int)<(nk:Int):=by omega
    have hk4:¬(k:Int)<(nl:Int):=by omega
    obtain ⟨c0,c1,c2,c3,c4,c5,hbo,hrep⟩:=hout.out
    rw[zeA keys (cleans l) [] k (by rw[zau,List.length_map,Hl.out];omega)] at hrep
    obtain ⟨o0,o1,o2,o3,o4,o5⟩:=hrep.six
    have g0:=zh hbo (i:=0) rfl;have g1:=zh hbo (i:=1) rfl;have g2:=zh hbo (i:=2) rfl
    have g3:=zh hbo (i:=3) rfl;have g4:=zh hbo (i:=4) rfl;have g5:=zh hbo (i:=5) rfl
    have q0:=zh hb.out.2.2 (i:=0) rfl;have q1:=zh hb.out.2.2 (i:=1) rfl;have q2:=zh hb.out.2.2 (i:=2) rfl
    have q3:=zh hb.out.2.2 (i:=3) rfl;have q4:=zh hb.out.2.2 (i:=4) rfl;have q5:=zh hb.out.2.2 (i:=5) rfl
    have hz:∀o,wr.frozen? ⟨w.heap.size+1,o,none⟩=false:=fun o=>by simp [World.frozen?,hb.out.2.2]
    have Hrep:=Lib.hid hrep
    clear hbo hrep
    go_wp2
    have HQ:Hid ((six wr (w.heap.size+1) c0 c1 c2 c3 c4 c5).heap[w.heap.size+1]? =some (.cells #[c0,c1,c2,c3,c4,c5] 27 (0,0))):=zgd hb.out.2.2 _ _ _ _ _ _
    have HEq:Hid (Ext w (six wr (w.heap.size+1) c0 c1 c2 c3 c4 c5)):=zdd hb.out.1 (by omega) _ _ _ _ _ _
    have HRq:Hid (RepGV (w.heap.size≤ ·) (six wr (w.heap.size+1) c0 c1 c2 c3 c4 c5) (zc7 (z8 keys (cleans l) [])) [c0,c1,c2,c3,c4,c5]):=RepGV.frame (S':=(w.heap.size≤ ·)) ((zbY wr (w.heap.size+1) _ _ _ _ _ _).mono fun b hb=>by omega) (fun b hb=>by omega) Hrep.out
    refine bodyPost_ret (zi5 results76 rfl HQ.out) rfl ?_
    exact ⟨_,rfl,⟨_,rfl,HRq.out⟩,HEq.out⟩
  ·have hk0:(0:Int)≤(k:Int):=by omega
   have hk3:¬(k:Int)<(nk:Int):=by omega
   obtain ⟨c0,c1,c2,c3,c4,c5,hbo,hrep⟩:=hout.out
   rw[zeA keys (cleans l) [] k (.inl (by rw[Hk.out];omega))] at hrep
   obtain ⟨o0,o1,o2,o3,o4,o5⟩:=hrep.six
   have g0:=zh hbo (i:=0) rfl;have g1:=zh hbo (i:=1) rfl;have g2:=zh hbo (i:=2) rfl
   have g3:=zh hbo (i:=3) rfl;have g4:=zh hbo (i:=4) rfl;have g5:=zh hbo (i:=5) rfl
   have q0:=zh hb.out.2.2 (i:=0) rfl;have q1:=zh hb.out.2.2 (i:=1) rfl;have q2:=zh hb.out.2.2 (i:=2) rfl
   have q3:=zh hb.out.2.2 (i:=3) rfl;have q4:=zh hb.out.2.2 (i:=4) rfl;have q5:=zh hb.out.2.2 (i:=5) rfl
   have hz:∀o,wr.frozen? ⟨w.heap.size+1,o,none⟩=false:=fun o=>by simp [World.frozen?,hb.out.2.2]
   have Hrep:=Lib.hid hrep
   clear hbo hrep
   go_wp2
   have HQ:Hid ((six wr (w.heap.size+1) c0 c1 c2 c3 c4 c5).heap[w.heap.size+1]? =some (.cells #[c0,c1,c2,c3,c4,c5] 27 (0,0))):=zgd hb.out.2.2 _ _ _ _ _ _
   have HEq:Hid (Ext w (six wr (w.heap.size+1) c0 c1 c2 c3 c4 c5)):=zdd hb.out.1 (by omega) _ _ _ _ _ _
   have HRq:Hid (RepGV (w.heap.size≤ ·) (six wr (w.heap.size+1) c0 c1 c2 c3 c4 c5) (zc7 (z8 keys (cleans l) [])) [c0,c1,c2,c3,c4,c5]):=RepGV.frame (S':=(w.heap.size≤ ·)) ((zbY wr (w.heap.size+1) _ _ _ _ _ _).mono fun b hb=>by omega) (fun b hb=>by omega) Hrep.out
   refine bodyPost_ret (zi5 results76 rfl HQ.out) rfl ?_
   exact ⟨_,rfl,⟨_,rfl,HRq.out⟩,HEq.out⟩
theorem zb:prog.follows .mixedOrders=true:=by kernel_rfl
abbrev dI (n:Int):D:=.v (.int .i64 n)
abbrev dS (s:ByteArray):D:=.v (.string s)
abbrev dB (b:Bool):D:=.v (.bool b)
abbrev dF (n:Nat):D:=.v (.float .f64 n)
def zag (l:List ByteArray):List (List D):=l.map fun s=>[dS s]
abbrev ZS (l:List ByteArray):D:=.sl 9 (zag l)
mutual
def gvD:GV→List D
 | .mk kind n f s keys l=>[dI kind,dI n,dF f,dS s,ZS keys,.sl 27 (gvDs l)]
def gvDs:List GV→List (List D)
 | []=>[]
 |x::l=>gvD x::gvDs l
end
theorem zod:∀l,gvDs l=l.map gvD
 | []=>by simp [gvDs]
 |x::l=>by simp [gvDs,zod l]
def cls (xs:List D):List Cl:=xs.map .d
abbrev gvA (g:GV):Av:=.agg (cls (gvD g))
abbrev zaD (l:List GV):D:=.sl 27 (l.map gvD)
theorem zbx (kind n:Int)(f:Nat)(s:ByteArray)(keys:List ByteArray)(l:List GV):gvD (.mk kind n f s keys l)= [dI kind,dI n,dF f,dS s,ZS keys,zaD l]:=by
 rw[gvD,zod]
@[simp] theorem zia (g:GV):(gvD g).length=6:=by cases g;rw[zbx];rfl
@[simp] theorem zra (g:GV):(gvD g).take 6=gvD g:=List.take_of_length_le (by simp)
@[simp] theorem zcC (x:D)(xs:List D):cls (x::xs)= .d x::cls xs:=rfl
@[simp] theorem zfQ:cls []= []:=rfl
@[simp] theorem zvi (xs:List D):(cls xs).length=xs.length:=by simp [cls]
@[simp] theorem zwx (g:GV):(cls (gvD g)).take 6=cls (gvD g):=List.take_of_length_le (by simp)
theorem zbk (xs:List D):List.map Cl.d xs=cls xs:=rfl
@[simp] theorem zw1 (xs:List D):(cls xs).all Cl.isD=true:=by simp [cls,Cl.isD]
@[simp] theorem zrb:∀xs:List D,zc (cls xs)=some xs
 | []=>rfl
 |x::xs=>by
  have:=zrb xs
  show (zc (cls xs)).map (x::·)=_
  rw[this];rfl
@[simp] theorem zvj {α:Type}(xs ys:List α)(h:ys.length=xs.length):splice xs 0 ys=ys:=by simp [splice,h]
@[simp] theorem zv8 {α:Type}(x y:α)(xs ys:List α):splice (x::xs) 0 (y::ys)=y::splice xs 0 ys:=by simp [splice]
@[simp] theorem zv9 {α:Type}(xs:List α):splice xs 0 []=xs:=by simp [splice]
@[simp] theorem zwa {α:Type}(x:α)(xs ys:List α)(n:Nat):splice (x::xs) (n+1) ys=x::splice xs n ys:=by
 simp only [splice,List.take_succ_cons,List.cons_append]
 rw[show n+1+ys.length=(n+ys.length)+1 by omega,List.drop_succ_cons]
@[simp] theorem zw2 (xs:List D):(cls xs).flatMap Cl.ids= []:=by
 induction xs with
 |nil=>rfl
 |cons x xs ih=>simp only [zcC,List.flatMap_cons,ih,Cl.ids,List.append_nil]
@[simp] theorem zwy (l:List ByteArray)(i:Nat)(h:i<(zag l).length):(zag l)[i]= [dS (l[i]'(by simpa [zag] using h))]:=by simp [zag]
@[simp] theorem zup (l:List ByteArray):(zag l).length=l.length:=by simp [zag]
@[simp] theorem zw3 (F:List Nat)(h:Nat→Option Ow)(xs:List D):(cls xs).map (zgg prog F h)=cls xs:=by
 induction xs with
 |nil=>rfl
 |cons x xs ih=>simp only [zcC,List.map_cons,ih,zgg,zcN,ziW]
@[simp] theorem zwz (h:Nat→Option Ow)(xs:List D):(cls xs).flatMap (Cl.deep h)= []:=by
 induction xs with
 |nil=>rfl
 |cons x xs ih=>simp only [zcC,List.flatMap_cons,ih,Cl.deep,Cl.deepN,List.append_nil]
@[simp] theorem zyB (g:GV):coL [none,none,none,none,some 9,some 27] (cls (gvD g))=cls (gvD g):=by cases g;rw[zbx];rfl
structure GVk (kind n:Int) (f:Nat) (s:ByteArray) (keys:List ByteArray) (l:List GV):Prop where
 hkind: -9223372036854775808≤kind∧kind≤9223372036854775807
 hn: -9223372036854775808≤n∧n≤9223372036854775807
 hf:f<18446744073709551616
 hs:s.size≤140737488351232
 hkeys:keys.length*16≤140737488351232
 hkey:∀k∈keys,k.size≤140737488351232
 hl:l.length*88≤140737488351232
 hitem:∀x∈l,okA prog (gvA x)
theorem zrc {xs:List D}(h:∀d∈xs,okD prog d)(w:World)(S:Nat→Prop)(k:∃us,All2 (RepD prog w S) xs us):okA prog (.agg (cls xs)):=by
 obtain ⟨us,ha⟩:=k
 refine ⟨w,S,.agg us.toArray,us,rfl,?_⟩
 clear h
 induction ha with
 |nil=>exact .nil
 |cons h t ih=>exact .cons h ih
theorem zvk {xs:List D}(h:okD prog (.pt xs)):okA prog (.agg (cls xs)):=by
 obtain ⟨w,S,v,h⟩:=h
 obtain ⟨ad,rfl,hr⟩:=RepD.pt_iff.1 h
 refine zrc (fun d hd=>zuU ⟨w,S,_,h⟩ d hd) w S ⟨(List.range xs.length).map fun i=>(w.cell? (ad.add i)).getD undef,All2.of (by simp) fun i d u hi hu=>?_⟩
 obtain ⟨u',_,hc,hr⟩:=hr i d hi
 rw[List.getElem?_map] at hu
 obtain ⟨i',hi',rfl⟩:=Option.map_eq_some_iff.1 hu
 obtain ⟨hlt,rfl⟩:=List.getElem?_eq_some_iff.1 hi'
 simp only [List.getElem_range,hc,Option.getD_some];exact hr
theorem zoe {E:TypeId}{xs:List (List D)}(h:okD prog (.sl E xs)){r:List D}(hr:r∈xs):okA prog (.agg (cls r)):=by
 obtain ⟨w,S,v,h⟩:=h
 obtain ⟨A,c,rfl,_,hb,hrow⟩:=RepD.sl_iff.1 h
 obtain ⟨j,hj⟩:=List.getElem?_of_mem hr
 by_cases h0:0<prog.cellsOf E
 ·obtain ⟨ad,_,hq⟩:=(hrow j r hj).2 h0
  exact zvk ⟨w,S,_,RepD.pt_iff.2 ⟨_,rfl,hq⟩⟩
 ·have h1:=(hrow j r hj).1
  have:r= []:=List.eq_nil_of_length_eq_zero (by omega)
  subst this
  exact ⟨w,S,.agg #[],[],rfl,.nil⟩
theorem zkZ {l:List ByteArray}(h:okD prog (ZS l)):l.length*16≤140737488351232∧∀k∈l,k.size≤140737488351232:=by
 obtain ⟨h1,h2⟩:=zgr h
 simp at h1
 exact ⟨h1,fun k hk=>zeY ((h2 [dS k] (List.mem_map.2 ⟨k,hk,rfl⟩)).2 _ (List.mem_singleton_self _))⟩
theorem zrd {l:List GV}(h:okD prog (zaD l)):l.length*88≤140737488351232∧∀x∈l,okA prog (gvA x):=by
 obtain ⟨h1,h2⟩:=zgr h
 simp at h1
 exact ⟨h1,fun x hx=>zoe h (List.mem_map.2 ⟨x,hx,rfl⟩)⟩
theorem zof {kind n:Int}{f:Nat}{s:ByteArray}{keys:List ByteArray}{l:List GV}(h:okA prog (gvA (.mk kind n f s keys l))):GVk kind n f s keys l:=by
 have h1:=zkP h
 rw[zbx] at h1
 have h2:∀d∈ [dI kind,dI n,dF f,dS s,ZS keys,zaD l],okD prog d:=fun d hd=>h1 (.d d) (List.mem_map.2 ⟨d,hd,rfl⟩) d rfl
 have a1:=zkZ (h2 (ZS keys) (by simp))
 have a2:=zrd (h2 (zaD l) (by simp))
 refine ⟨zn9 (h2 _ (by simp)),zn9 (h2 (dI n) (by simp)),?_,zeY (h2 (dS s) (by simp)),a1.1,a1.2,a2.1,a2.2⟩
 have:=zqp (h2 (dF f) (by simp))
 simpa [z7] using this
end Go.Smd
end
section
namespace Go.Smd
open Go.RowKit
section
variable {P:Program} {N:Nat} {tl:List (Nat×Av)} {hl:List (Nat×Ow)} {σ:St}
theorem zvl {d:Option Tmp}{op:Op}{ty:TypeId}{pos:String}{af:Array Edge}{g:Option (Nat×Bool)}:Oper.dst ⟨d,op,ty,pos,af,g⟩=d:=_root_.id rfl
theorem zwA {d:Option Tmp}{op:Op}{ty:TypeId}{pos:String}{af:Array Edge}{g:Option (Nat×Bool)}:Oper.op ⟨d,op,ty,pos,af,g⟩=op:=_root_.id rfl
theorem zre {d:Option Tmp}{op:Op}{ty:TypeId}{pos:String}{af:Array Edge}{g:Option (Nat×Bool)}:Oper.guard ⟨d,op,ty,pos,af,g⟩=g:=_root_.id rfl
theorem zrf:σ.give P []=σ:=_root_.id rfl
theorem zpl {i:Nat}{F:List Nat}:(St.mk tl hl).give P (i::F)=⟨zcM (zcO P (i::F) (zd hl)) tl,zcM (zkC P (i::F) (zd hl)) (zbt (fun j=> !(i::F).contains j) hl)⟩:=_root_.id rfl
theorem zvm {d:Option Tmp}{K:St→Prop}{t:Tg (σ,d,K)}{r:Av}{own':List (Nat×Ow)}:BkR σ d K t r own'=zlV (ZI σ (inR σ.own) (d.getD 0) own') (K ((σ.back (inR σ.own) (d.getD 0) own').put d ((r.ren (ZC (inR σ.own) (d.getD 0))).fix (zd (zT σ (inR σ.own) (d.getD 0) own'))))) ():=_root_.id rfl
theorem zvn:St.own ⟨tl,hl⟩=hl:=_root_.id rfl
theorem ztA:St.tmps ⟨tl,hl⟩=tl:=_root_.id rfl
theorem ztB {ρ:List (Nat×Nat)}{t:Nat}{own':List (Nat×Ow)}:(St.mk tl hl).back ρ t own'=⟨zcM (Av.fix (zd (zcu (ZC ρ t) (Ow.ren (ZC ρ t)) own'++zbt (fun i=> !(ρ.map (·.2)).contains i) hl))) (zZ tl),zcM (Ow.fix (zd (zcu (ZC ρ t) (Ow.ren (ZC ρ t)) own'++zbt (fun i=> !(ρ.map (·.2)).contains i) hl))) (zcu (ZC ρ t) (Ow.ren (ZC ρ t)) own'++zbt (fun i=> !(ρ.map (·.2)).contains i) hl)⟩:=_root_.id rfl
theorem zrg {ρ:List (Nat×Nat)}{t:Nat}{own':List (Nat×Ow)}:zT (St.mk tl hl) ρ t own'=zcu (ZC ρ t) (Ow.ren (ZC ρ t)) own'++zbt (fun i=> !(ρ.map (·.2)).contains i) hl:=_root_.id rfl
theorem zpm {ρ:List (Nat×Nat)}{t:Nat}{own':List (Nat×Ow)}:ZI (St.mk tl hl) ρ t own'=zc2 own' fun k _=>zp ρ k||(!zp hl (ZC ρ t k) && decide (ZC ρ t k<zed) && decide (k<zed)):=_root_.id rfl
end
attribute [simp] zed zdX zaJ zb1 zeo zdu zaa zbV zdY ze3 zcK zdt zaI zam zab zcZ zbo zbZ Zg zaS zaY zaZ zqn zqo zdS za0 za1 zbE zcJ zaH zaG zb9 zbH Zx zcL zcy trD zbr Zq zcv zaT Zm zap Zi zhz zes Z9 zbG zbF zaB zb0 zbQ Z8 za2 za3 za4 za5 za6 za7 za8 za9 zbi zbj zba zbb zbc zbd zbe zbf zbg zbh z7 Z7 ZZ
attribute [simp ↓] zqt zsZ zs0 zlX zqu zs1 zs2 zxT zqv zqw zuV zuW zs3 zs4 zlY zo4 zm6 zlZ zo5 zvl zwA zre zvn ztA
attribute [simp] zqx
attribute [simp ↓] zs5 zo6 zs6 zs7 zqz zm7 zkS zs8 zkT zqB zm8 zl0 zi0 zl1 zo8 zgs zqC zqD ztb zo9 zm9 ztc ztd zna zqE zu1 zqF zi1 zkU zqG zte zqH zqI
attribute [simp] zuX zxU zuY zs9 zuZ zu0 zta
attribute [simp] zpa zpb znb znc znd zne znf
attribute [simp ↓] zwo zqJ zu2 zqK zi2 zkV zpc zqL zqM zl2 zqN ztg zqO zqP zqQ zpd zqR zpe zpf zqS zwp zth zu3 zpg zqT zti zqU zqV
attribute [simp] zxV zu4 zqW
attribute [simp ↓] ztj ztk zqX zqY zu5 zqZ zu8 zwq zu9 zng zva znh zvb zvc zto zq2 zq3 zvd ztp zpi zq4 ztq ztr zq6 zts zve zvg zvh ztv ztw zwv zww
attribute [simp] zbk ztt zwr zq8 asX zq5 zvm
attribute [simp ↓] zu6 ztl ztm
attribute [simp] zq0 zph ztn zq1
attribute [simp 900] zxW
attribute [simp 800] zu7
attribute [simp] zsW zqq zsX zsY zeZ zwn zo2
attribute [simp] zcO zgg zcN ziW zkC zc Av.deep Cl.deep Cl.deepN zmU coL coC noT Av.isD Cl.isD zfj zkF zeW zkG zdx zZ ziZ zfm zhW isW isA Zu zrf zpl zcM zcu zbt
attribute [simp] zhR inK inR zha zc2 zp Av.ren Ow.ren Cl.ren Av.ids Ow.ids Cl.ids Av.fix Ow.fix Cl.fix ZC zpm zrg ztB zce zdZ zb2 Cl.plain Av.plain
end Go.Smd
end
