/- Part 29. -/
import Derived.Test.YtdgnolbdcmgfoaaGreatQD28
import Derived.Test.YtdgnolbdcmgfoaaGreatQD09
set_option linter.unusedVariables false
set_option linter.unusedSimpArgs false
set_option maxRecDepth 100000
set_option maxHeartbeats 8000000
section
namespace Go.Smd
open Go.RowKit Go.Proofs Go.Proofs.Tryz
def zox (w:World)(b:Nat)(vm vc:Value)(T:TypeId)(n i:Nat)(cs es:List Value)(en:Ending)(w':World):Prop:=
 ∃(b2:Nat) (vc':Value),en= .returned (.pointer (some ⟨b2,0,none⟩))∧w'.heap[b]? =some (.cells #[vm,vc'] T (0,0))∧w'.heap[b2]? =some (.cells #[.slice none 0 0,.slice none 0 0] ziD (0,0))∧
  w'.ownsRow 0 tSN 5 vc' (n+1) (cs.take (i*5)++((es++ [.pointer (some ⟨b2,0,none⟩)])++cs.drop (i*5)))∧(vc'.ownBlock=vc.ownBlock∨∃k,vc'.ownBlock=some k∧w.heap.size≤k∧k≠b2)∧w.heap.size≤b2∧GrownX (fun x=>x=b∨vc.ownBlock=some x) w w'
theorem znH (w:World)(b:Nat)(vm:Value)(g n c i:Nat)(T:TypeId)(e0 e1 e2 e3 u4:Value)(h1:w.heap[b]? =some (.cells #[vm,.slice (some ⟨g,0,none⟩) n c] T (0,0)))(hi:i<n)(hn:n*40≤140737488351232)(h1e:∀u∈ [e0,e1,e2,e3],u.oneCell'=true)
  (h4:w.cell? ⟨g,i*5+4,none⟩=some u4)
  (hbs:∀W,Ext w W→Calls prog 203 #[.slice (some ⟨g,0,none⟩) n c,.agg #[e0,e1,e2,e3],.func (.func 228) #[] #[]] W fun en W'=>en= .returned (.tuple #[.int .i64 i,.bool true])∧Ext W W'):
  Calls prog 196 #[.pointer (some ⟨b,1,none⟩),.agg #[e0,e1,e2,e3]] w fun en w'=>en= .returned u4∧Ext w w':=by
 have hE0:Ext w (w.alloc (.cells #[e0,e1,e2,e3] tPE)):=(Ext.refl w).alloc _
 have hB0:=zbP (w:=w) (.cells #[e0,e1,e2,e3] tPE) rfl
 have HBS:=Lib.hid hbs;have HH:=Lib.hid h1;have H1E:=Lib.hid h1e;have H4:=Lib.hid h4
 have hn2:n≤9223372036854775807:=by omega
 clear hbs h1 h1e h4
 go_enter func196,ntmps196
 go_upto_region 1 with fail
 generalize w.alloc (.cells #[e0,e1,e2,e3] tPE)=w1 at hE0 hB0 ⊢
 refine ZF [] (by kernel_rfl) ?_
 have HE1:Hid (Ext w w1.drew):=Lib.hid hE0.drew
 have HB1:Hid (w1.drew.heap[w.heap.size]? =some (.cells #[e0,e1,e2,e3] tPE (0,0))):=Lib.hid hB0
 clear hE0 hB0
 generalize w1.drew=w2 at HE1 HB1 ⊢
 have q1:=zh (HE1.out.heap HH.out) (i:=1) rfl
 have q2:=zh HB1.out (i:=0) rfl;have q3:=zh HB1.out (i:=1) rfl;have q4:=zh HB1.out (i:=2) rfl;have q5:=zh HB1.out (i:=3) rfl
 refine ZA (listed':=lst 11 [0,1,2,3,4]) [0,1,2,3,4] 6 (by kernel_rfl) (fun _ _ _ _ h=>h) (by kernel_rfl) rfl (by kernel_rfl) ?_
 repeat (refine zV rfl ?_;go_big_quiet_step (fail);refine wpQuiet_nil ?_)
 refine Zf ?_
 clear q1 q2 q3 q4 q5
 refine zjC (n:=5) (i:=5) (listed':=lst 11 [0,1,2,3,4,5]) (by kernel_rfl) rfl rfl (by kernel_rfl) ?_
 go_wp2_with fail
 refine (HBS.out w2 HE1.out).mono ?_
 rintro e w3 ⟨rfl,hE3⟩
 have HE3:=Lib.hid (HE1.out.trans hE3)
 go_wp2_with fail
 refine ⟨hE3,?_⟩
 clear hE3
 refine ZA (listed':=lst 11 [0,1,2,3,4,5,6,7,8,9,10]) [6,7,8,9,10] 0 (by kernel_rfl) (fun _ _ _ _ h=>h) (by kernel_rfl) rfl (by kernel_rfl) ?_
 repeat (refine zV rfl ?_;go_big_quiet_step (fail);refine wpQuiet_nil ?_)
 refine Zf ?_
 refine zcf (by kernel_rfl) ?_
 clear HE1 HB1
 have q1:=zh (HE3.out.heap HH.out) (i:=1) rfl
 have q2:=HE3.out.cell H4.out
 go_wp2
 go_ret
 exact ⟨rfl,HE3.out⟩
theorem zrQ (w:World)(b:Nat)(vm vc:Value)(T:TypeId)(n i:Nat)(cs:List Value)(e0 e1 e2 e3:Value)(h1:w.heap[b]? =some (.cells #[vm,vc] T (0,0)))(hown:w.ownsRow 0 tSN 5 vc n cs)(hi:i≤n)(h1e:∀u∈ [e0,e1,e2,e3],u.oneCell'=true)(h1c:∀u∈cs,u.oneCell'=true)(hn:(n+1)*40≤140737488351232)(hvb:vc.ownBlock≠some b)
  (hbs:∀W,Ext w W→Calls prog 203 #[vc,.agg #[e0,e1,e2,e3],.func (.func 228) #[] #[]] W fun en W'=>en= .returned (.tuple #[.int .i64 i,.bool false])∧Ext W W'):
  Calls prog 196 #[.pointer (some ⟨b,1,none⟩),.agg #[e0,e1,e2,e3]] w (zox w b vm vc T n i cs [e0,e1,e2,e3]):=by
 have hb:b<w.heap.size:=(Array.getElem?_eq_some_iff.1 h1).1
 have hE0:Ext w (w.alloc (.cells #[e0,e1,e2,e3] tPE)):=(Ext.refl w).alloc _
 have hB0:=zbP (w:=w) (.cells #[e0,e1,e2,e3] tPE) rfl
 obtain ⟨A0,c0,hv0⟩:∃A c,vc= .slice A n c:=by
  rcases hown.2 with ⟨k1,k2⟩|⟨g,cap,cur,k1,_,_,_,_⟩
  ·exact ⟨none,0,by rw[k1,k2]⟩
  ·exact ⟨_,cap,k1⟩
 subst hv0
 have HBS:=Lib.hid hbs;have HO:=Lib.hid hown;have HH:=Lib.hid h1;have H1E:=Lib.hid h1e;have H1C:=Lib.hid h1c
 clear hbs hown h1 h1e h1c
 go_enter func196,ntmps196
 go_upto_region 1 with fail
 generalize w.alloc (.cells #[e0,e1,e2,e3] tPE)=w1 at hE0 hB0 ⊢
 refine ZF [] (by kernel_rfl) ?_
 have HE1:Hid (Ext w w1.drew):=Lib.hid hE0.drew
 have HB1:Hid (w1.drew.heap[w.heap.size]? =some (.cells #[e0,e1,e2,e3] tPE (0,0))):=Lib.hid hB0
 clear hE0 hB0
 generalize w1.drew=w2 at HE1 HB1 ⊢
 have q1:=zh (HE1.out.heap HH.out) (i:=1) rfl
 have q2:=zh HB1.out (i:=0) rfl;have q3:=zh HB1.out (i:=1) rfl;have q4:=zh HB1.out (i:=2) rfl;have q5:=zh HB1.out (i:=3) rfl
 refine ZA (listed':=lst 11 [0,1,2,3,4]) [0,1,2,3,4] 6 (by kernel_rfl) (fun _ _ _ _ h=>h) (by kernel_rfl) rfl (by kernel_rfl) ?_
 repeat (refine zV rfl ?_;go_big_quiet_step (fail);refine wpQuiet_nil ?_)
 refine Zf ?_
 clear q1 q2 q3 q4 q5
 refine zjC (n:=5) (i:=5) (listed':=lst 11 [0,1,2,3,4,5]) (by kernel_rfl) rfl rfl (by kernel_rfl) ?_
 go_wp2_with fail
 refine (HBS.out w2 HE1.out).mono ?_
 rintro e w3 ⟨rfl,hE3⟩
 have HE3:=Lib.hid (HE1.out.trans hE3);have HB3:=Lib.hid (hE3.heap HB1.out)
 go_wp2_with fail
 refine ⟨hE3,?_⟩
 clear hE3
 refine ZA (listed':=lst 11 [0,1,2,3,4,5,6,7,8,9,10]) [6,7,8,9,10] 0 (by kernel_rfl) (fun _ _ _ _ h=>h) (by kernel_rfl) rfl (by kernel_rfl) ?_
 repeat (refine zV rfl ?_;go_big_quiet_step (fail);refine wpQuiet_nil ?_)
 refine Zf ?_
 refine zcf (by kernel_rfl) ?_
 clear HE1 HB1
 go_upto_region 4 with fail
 refine wp_region_any (by kernel_rfl) ?_
 change wpAny _ _ _ _ _ _ _ (World.drew _)
 have HE4:Hid (Ext w w3.drew):=Lib.hid HE3.out.drew
 have HB4:Hid (w3.drew.heap[w.heap.size]? =some (.cells #[e0,e1,e2,e3] tPE (0,0))):=Lib.hid HB3.out
 clear HE3 HB3
 generalize w3.drew=w4 at HE4 HB4 ⊢
 refine wpAny_take (i:=0) (v:= ?v0) (ZQ rfl) (by kernel_rfl) (by kernel_rfl) (by kernel_rfl) (fun _ _ _ h=>h) (Or.inl ⟨by rfl,?y0⟩) ?r0
 case y0=>(intro W;go_simp;with_reducible rfl)
 refine wpAny_take (i:=1) (v:= ?v1) (ZQ rfl) (by kernel_rfl) (by kernel_rfl) (by kernel_rfl) (fun _ _ _ h=>h) (Or.inl ⟨by rfl,?y1⟩) ?r1
 case y1=>(intro W;go_simp;with_reducible rfl)
 refine wpAny_take (i:=2) (v:= ?v2) (ZQ rfl) (by kernel_rfl) (by kernel_rfl) (by kernel_rfl) (fun _ _ _ h=>h) (Or.inl ⟨by rfl,?y2⟩) ?r2
 case y2=>(intro W;go_simp;with_reducible rfl)
 refine wpAny_take (i:=3) (v:= ?v3) (ZQ rfl) (by kernel_rfl) (by kernel_rfl) (by kernel_rfl) (fun _ _ _ h=>h) (Or.inl ⟨by rfl,?y3⟩) ?r3
 case y3=>(intro W;go_simp;with_reducible rfl)
 refine wpAny_take (i:=5) (v:= ?v5) (ZQ rfl) (by kernel_rfl) (by kernel_rfl) (by kernel_rfl) (fun _ _ _ h=>h) (Or.inl ⟨by rfl,?y5⟩) ?r5
 case y5=>(intro W;go_simp;with_reducible rfl)
 refine wpAny_take (i:=7) (v:= ?v7) (ZQ rfl) (by kernel_rfl) (by kernel_rfl) (by kernel_rfl) (fun _ _ _ h=>h) (Or.inl ⟨by rfl,?y7⟩) ?r7
 case y7=>(intro W;go_simp;with_reducible rfl)
 refine zfl (B:=[11,14]) _ _ _ _ ?_
 simp only [Act.put,List.setIfInBounds_toArray,List.set_cons_zero,List.set_cons_succ]
 have q1:=zh (HE4.out.heap HH.out) (i:=1) rfl
 have q2:=zh HB4.out (i:=0) rfl;have q3:=zh HB4.out (i:=1) rfl;have q4:=zh HB4.out (i:=2) rfl;have q5:=zh HB4.out (i:=3) rfl
 refine ZA (listed':=lst 15 [0,1,2,3,4,5,6,7]) [4,6] 7 (by kernel_rfl) (fun _ _ _ _ h=>h) (by kernel_rfl) rfl (by kernel_rfl) ?_
 repeat (refine zV rfl ?_;go_big_quiet_step (fail);refine wpQuiet_nil ?_)
 refine Zf ?_
 clear q1 q2 q3 q4 q5
 have hE5:Ext w4 (w4.alloc (.cells #[.slice none 0 0,.slice none 0 0] ziD)):=(Ext.refl _).alloc _
 have hB5:=zbP (w:=w4) (.cells #[.slice none 0 0,.slice none 0 0] ziD) rfl
 refine zjC (n:=6) (i:=8) (listed':=lst 15 [0,1,2,3,4,5,6,7,8]) (by kernel_rfl) rfl rfl (by kernel_rfl) ?_
 go_wp2_with fail
 refine ⟨hE5,?_⟩
 have hs5:Hid ((w4.alloc (.cells #[.slice none 0 0,.slice none 0 0] ziD)).heap.size=w4.heap.size+1):=Lib.hid (zz _ _)
 have HE5:Hid (Ext w (w4.alloc (.cells #[.slice none 0 0,.slice none 0 0] ziD))):=Lib.hid (HE4.out.trans hE5)
 have HB5:=Lib.hid hB5
 have hw4:=Lib.hid HE4.out.size
 clear hE5 hB5 HE4 HB4
 generalize w4.alloc (.cells #[.slice none 0 0,.slice none 0 0] ziD)=w5 at HE5 HB5 hs5 ⊢
 refine ZA (listed':=lst 15 [0,1,2,3,4,5,6,7,8,9]) [9] 5 (by kernel_rfl) (fun _ _ _ _ h=>h) (by kernel_rfl) rfl (by kernel_rfl) ?_
 repeat (refine zV rfl ?_;go_big_quiet_step (fail);refine wpQuiet_nil ?_)
 refine Zf ?_
 have hE6:Ext w5 (w5.alloc (.cells #[e0,e1,e2,e3,.pointer (some ⟨w4.heap.size,0,none⟩)] tSN)):=(Ext.refl _).alloc _
 have hB6:=zbP (w:=w5) (.cells #[e0,e1,e2,e3,.pointer (some ⟨w4.heap.size,0,none⟩)] tSN) rfl
 refine zjC (n:=4) (i:=10) (listed':=lst 15 [0,1,2,3,4,5,6,7,8,9,10]) (by kernel_rfl) rfl rfl (by kernel_rfl) ?_
 go_wp2_with fail
 refine ⟨hE6,?_⟩
 have hs6:Hid ((w5.alloc (.cells #[e0,e1,e2,e3,.pointer (some ⟨w4.heap.size,0,none⟩)] tSN)).heap.size=w5.heap.size+1):=Lib.hid (zz _ _)
 have HE6:Hid (Ext w (w5.alloc (.cells #[e0,e1,e2,e3,.pointer (some ⟨w4.heap.size,0,none⟩)] tSN))):=Lib.hid (HE5.out.trans hE6)
 have HB6:=Lib.hid hB6
 have HB7:=Lib.hid (hE6.heap HB5.out)
 clear hE6 hB6 HE5 HB5
 generalize w5.alloc (.cells #[e0,e1,e2,e3,.pointer (some ⟨w4.heap.size,0,none⟩)] tSN)=w6 at HE6 HB6 HB7 hs6 ⊢
 refine zca (n:=3) (i:=11) (listed':=lst 15 [0,1,2,3,4,5,6,7,8,9,10,11]) (by kernel_rfl) rfl rfl rfl (by kernel_rfl) ?_
 go_wp2_with fail
 have hown6:w6.ownsRow 0 tSN 5 (.slice A0 n c0) n cs:=by
  refine ⟨HO.out.1,?_⟩
  rcases HO.out.2 with h0|⟨g,cap,cur,k1,k2,k3,k4⟩
  ·exact .inl h0
  ·exact .inr ⟨g,cap,cur,k1,k2,HE6.out.heap k3,k4⟩
 have hrow:∀k,(Value.slice A0 n c0).ownBlock=some k→k<w.heap.size:=fun k hk=>(HO.out.lt k hk).2
 refine (znB w6 (.slice A0 n c0) n i cs [e0,e1,e2,e3,.pointer (some ⟨w4.heap.size,0,none⟩)] ⟨w5.heap.size,0,none⟩ 1 hown6 hi rfl (fun j u hj=>by rw[zfE];exact zh HB6.out (by simpa using hj)) (fun u hu=>?_) H1C.out (fun hk=>by have h1:w5.heap.size<w.heap.size:=hrow _ hk;have:=hs5.out;have:=hw4.out;omega) hn).mono ?_
 ·simp only [List.mem_cons,List.not_mem_nil,or_false] at hu
  rcases hu with h|h|h|h|h
  ·exact H1E.out u (by simp [h])
  ·exact H1E.out u (by simp [h])
  ·exact H1E.out u (by simp [h])
  ·exact H1E.out u (by simp [h])
  ·rw[h];rfl
 rintro e w7 ⟨v',rfl,hown7,hg7,hat7⟩
 obtain ⟨g',cap',cur',rfl,z1,z2,z3,z4,z5⟩:=World.ownsRow.one hown7 (by omega)
 have HC7:Hid (w7.heap[b]? =some (.cells #[vm,.slice A0 n c0] T (0,0))):=Lib.hid ((hg7.block b (by have:=HE6.out.size;omega) (fun h=>hvb h.symm)).trans (HE6.out.heap HH.out))
 have hgb:g'≠b:=fun h=>by
  rcases hat7 with k|⟨k',k,k5,_⟩
  ·exact hvb (by rw[←k,h];rfl)
  ·have k:g'=k':=by injection k
   have:=HE6.out.size;omega
 have q1:=zh HC7.out (i:=1) rfl
 have hfz:∀o,w7.frozen? ⟨b,o,none⟩=false:=fun o=>by simp [World.frozen?,HC7.out]
 have HO7:=Lib.hid hown7;have HG7:=Lib.hid hg7;have HA7:=Lib.hid hat7;have HZ1:=Lib.hid z1;have HZ5:=Lib.hid z5
 clear hown7 hg7 hat7 hown6 z1 z5
 go_wp2_with fail
 refine ZA (listed':=lst 15 [0,1,2,3,4,5,6,7,8,9,10,11,12,13]) [12,13] 1 (by kernel_rfl) (fun _ _ _ _ h=>h) (by kernel_rfl) rfl (by kernel_rfl) ?_
 repeat (refine zV rfl ?_;go_big_quiet_step (fail);refine wpQuiet_nil ?_)
 refine Zf ?_
 refine zca (n:=0) (i:=14) (listed':=lst 15 [0,1,2,3,4,5,6,7,8,9,10,11,12,13,14]) (by kernel_rfl) rfl rfl rfl (by kernel_rfl) ?_
 go_wp2_with fail
 refine zcf (by kernel_rfl) ?_
 have HB8:Hid ((w7.setCell ⟨b,1,none⟩ (.slice (some ⟨g',0,none⟩) (n+1) cap')).heap[b]? =some (.cells #[vm,.slice (some ⟨g',0,none⟩) (n+1) cap'] T (0,0))):=Lib.hid (zaz _ HC7.out)
 have hsm:=ZT w7 b 1 (.slice (some ⟨g',0,none⟩) (n+1) cap')
 have hsz:(w7.setCell ⟨b,1,none⟩ (.slice (some ⟨g',0,none⟩) (n+1) cap')).heap.size=w7.heap.size:=by simp [World.setCell]
 have HD:Hid (zox w b vm (.slice A0 n c0) T n i cs [e0,e1,e2,e3] (.returned (.pointer (some ⟨w4.heap.size,0,none⟩))) (w7.setCell ⟨b,1,none⟩ (.slice (some ⟨g',0,none⟩) (n+1) cap'))):=by
  have hw4:=hw4.out;have hs5:=hs5.out;have hs6:=hs6.out
  have x1:=HG7.out.size
  refine ⟨w4.heap.size,.slice (some ⟨g',0,none⟩) (n+1) cap',rfl,HB8.out,?_,⟨HO7.out.1,.inr ⟨g',cap',cur',rfl,Nat.zero_le _,(hsm g' hgb).trans HZ1.out,z2,z3,z4,HZ5.out⟩⟩,?_,hw4,?_⟩
  ·refine (hsm _ (by omega)).trans ((HG7.out.block w4.heap.size (by omega) fun h=>?_).trans HB7.out)
   have:=hrow _ h.symm;omega
  ·rcases HA7.out with k|⟨k',k,k5,_⟩
   ·exact .inl k
   ·exact .inr ⟨k',k,by have:=HE6.out.size;omega,by omega⟩
  ·have y1:GrownX (fun x=>x=b∨(Value.slice A0 n c0).ownBlock=some x) w w6:=⟨HE6.out.os,HE6.out.tape,HE6.out.output,HE6.out.size,fun k hk _=>HE6.out.block k hk⟩
   have y2:GrownX (fun x=>x=b∨(Value.slice A0 n c0).ownBlock=some x) w6 w7:=GrownX.of HG7.out fun x hx=>.inr hx
   have y3:GrownX (fun x=>x=b∨(Value.slice A0 n c0).ownBlock=some x) w7 (w7.setCell ⟨b,1,none⟩ (.slice (some ⟨g',0,none⟩) (n+1) cap')):=⟨rfl,rfl,rfl,by omega,fun k hk hq=>hsm k fun e=>hq (.inl e)⟩
   exact (y1.trans y2).trans y3
 have q7:=zh HB8.out (i:=1) rfl
 have q8:(w7.setCell ⟨b,1,none⟩ (.slice (some ⟨g',0,none⟩) (n+1) cap')).cell? ⟨g',i*5+4,none⟩=some (.pointer (some ⟨w4.heap.size,0,none⟩)):=by
  refine zh ((hsm g' hgb).trans HZ1.out) ?_
  have h1:(cur'.toList.take ((n+1)*5))[i*5+4]? =some (.pointer (some ⟨w4.heap.size,0,none⟩)):=by
   rw[HZ5.out,List.getElem?_append_right (by rw[List.length_take,HO.out.1];omega),List.length_take,HO.out.1,Nat.min_eq_left (Nat.mul_le_mul_right 5 hi),Nat.add_sub_cancel_left]
   rfl
  rw[List.getElem?_take] at h1
  split at h1
  ·simpa using h1
  ·cases h1
 have hi1:i<n+1:=by omega
 have hn1:n+1≤9223372036854775807:=by omega
 clear HB8 hsm hsz q1 hfz HZ1 HZ5 HO7 HG7 HA7 HC7
 generalize w7.setCell ⟨b,1,none⟩ (.slice (some ⟨g',0,none⟩) (n+1) cap')=w8 at HD q7 q8 ⊢
 go_wp2
 go_ret
 exact HD.out
def zle (ks:PK)(bs:List Nat):List (LE×D):=List.zipWith (fun e b=>(zX e,ptB b)) ks.es bs
theorem zka {ks:PK}{bs:List Nat}:zaN (skP ks) bs=(zle ks bs).map ndD:=by
 rw[zda,zfx,zle,List.map_zipWith,List.zipWith_map_left]
theorem ziF {ks:PK}{bs:List Nat}(h:bs.length=ks.es.length):(zle ks bs).map (·.1)=ks.es.map zX:=by
 rw[zle,List.map_zipWith]
 have:∀(l:List EV) (m:List Nat),m.length=l.length→List.zipWith (fun e _=>zX e) l m=l.map zX:=fun l=>by
  induction l with
  |nil=>intro m _;simp
  |cons a l ih=>
   intro m hm
   cases m with
   |nil=>simp at hm
   |cons x m=>simp [ih m (by simpa using hm)]
 exact this _ _ h
theorem RDs.cells {P:Program}{S:Nat→Prop}{w:World}{E:TypeId}{k:Nat}{S0:Nat→Prop}{v:Value}{xs:List (List D)}(h:Build (RDs P) E k S0 S w v xs)(hk:0<k):∃cs,w.ownsRow 0 E k v xs.length cs∧(∀u∈cs,u.oneCell'=true)∧Elems (RDs P w fun b=>S b∧v.ownBlock≠some b) k xs cs:=by
 obtain ⟨cs,h1,_,h2⟩:=h
 exact ⟨cs,h1,zj4 h2 hk,h2⟩
theorem zf2:prog.cellsOf tSN=5:=by kernel_rfl
theorem zrR:prog.bytesOf tSN=40:=by kernel_rfl
theorem ziG {FS:List (List Nat)}(nd:FS.flatten.Nodup){i j:Nat}(hne:i≠j){F G:List Nat}(hF:FS[i]? =some F)(hG:FS[j]? =some G):∀x∈F,x∉G:=by
 have h:=(List.pairwise_iff_getElem.1 (List.pairwise_flatten.1 nd).2)
 obtain ⟨h1,rfl⟩:=List.getElem?_eq_some_iff.1 hF
 obtain ⟨h2,rfl⟩:=List.getElem?_eq_some_iff.1 hG
 intro x hx hy
 rcases Nat.lt_or_gt_of_ne hne with hl|hl
 ·exact h i j h1 h2 hl x hx x hy rfl
 ·exact h j i h2 h1 hl x hy x hx rfl
theorem Kids.put {P:Program}{S S':Nat→Prop}{w w':World}{ts:List ST}{bs:List Nat}{FS:List (List Nat)}(h:Kids P S w ts bs FS){i:Nat}{t:ST}{b:Nat}{F F':List Nat}(hb:bs[i]? =some b)(hF:FS[i]? =some F)(ht:HasS P S' w' t b F')
  (e:Same S w w') (hblk:∀x,x<w.heap.size→x∉F→w'.heap[x]? =w.heap[x]?) (nd:FS.flatten.Nodup) (hS:∀x,S x→S' x):Kids P S' w' (ts.set i t) bs (FS.set i F'):=by
 refine ⟨by simp [h.1],by simp [h.2.1],fun j t' b' G h1 h2 h3=>?_⟩
 by_cases hij:i=j
 ·subst hij
  rw[hb] at h2;cases h2
  have hl:=(List.getElem?_eq_some_iff.1 hb).1
  rw[List.getElem?_set_self (by rw[←h.1];exact hl)] at h1
  rw[List.getElem?_set_self (by rw[h.2.1,←h.1];exact hl)] at h3
  cases h1;cases h3;exact ht
 ·rw[List.getElem?_set_ne hij] at h1 h3
  have k:=h.2.2 j t' b' G h1 h2 h3
  exact HasS.frame t' k e (fun x hx=>hblk x (HasS.blocks _ k x hx) fun hxF=>ziG nd hij hF h3 x hxF hx) hS
theorem GrownX.mono {Q Q':Nat→Prop}{w w':World}(h:GrownX Q w w')(k:∀x,Q x→Q' x):GrownX Q' w w':=⟨h.os,h.tape,h.output,h.size,fun x hx hq=>h.block x hx fun hx'=>hq (k x hx')⟩
theorem GrownX.ofExt {Q:Nat→Prop}{w w':World}(h:Ext w w'):GrownX Q w w':=⟨h.os,h.tape,h.output,h.size,fun x hx _=>h.block x hx⟩
theorem zmq {S:Nat→Prop}{w:World}{ms:List EV}{ks:PK}{b:Nat}{F:List Nat}{N:Nat}(h:HasS prog S w (stP (.mk ms ks)) b F)(hS:∀x,S x→x<w.heap.size∧x∉F)(ok:OkS N (.mk ms ks))(hN:(N+1)*40≤140737488351232)
  (e:EV) (he:GoodE e) (u:Value) (hu:RepA prog S noB noH w (leA (zX e)) u):
  Calls prog 196 #[.pointer (some ⟨b,1,none⟩),u] w fun en w'=>∃b2 F2,en= .returned (.pointer (some ⟨b2,0,none⟩))∧HasS prog S w' (stP (ZW e ks)) b2 F2∧(∀x∈F2,x∈F∨w.heap.size≤x)∧GrownX (· ∈F) w w'∧
   ∀(t:PS) (w2:World),zcj prog S w' b2 F2 (stP t) w2→zcj prog S w b F (stP (.mk ms (zbA e t ks))) w2:=by
 have hFw:=HasS.blocks _ h
 simp only [stP,HasS] at h
 obtain ⟨vm,vc,T,bs,G,h1,h2,h3,h4,rfl,h5,h6,h7⟩:=h
 simp only [OkS] at ok
 obtain ⟨FS,hk,rfl⟩:=(zeL _ _ _).1 h4
 have hbl:bs.length=ks.es.length:=by have:=hk.1;rw[zeg,List.length_map,PK.ss_length] at this;exact this
 have hrl:(zaN (skP ks) bs).length=ks.es.length:=by rw[zka,List.length_map,zle];simp [hbl]
 obtain ⟨cs,hown,h1c,hel⟩:=RDs.cells h3 (show 0<prog.cellsOf tSN by rw[zf2];omega)
 rw[zf2] at hown hel
 rw[hrl] at hown
 have hB:=zld ok.2.2.2.2.1 ok.2.2.2.1 he
 have hA:=znA ok.2.2.2.1 he
 obtain ⟨i,hi⟩:∃i,i=lbE e ks.es:=⟨_,rfl⟩
 rw[←hi] at hB hA
 have hile:i≤ks.es.length:=by rw[hi];exact znx e _
 have hbs:∀fd,(fd=true↔zgC e ks.es)→∀W,Ext w W→Calls prog 203 #[vc,u,.func (.func 228) #[] #[]] W fun en W'=>en= .returned (.tuple #[.int .i64 i,.bool fd])∧Ext W W':=fun fd hfd W hW=>by
  have hc:=znD 228 (zle ks bs) (zX e) i fd (by simp only [zle,List.length_zipWith,hbl,Nat.min_self];omega)
   (fun x hx=>zpK x (zX e) (by
    have:x.1∈(zle ks bs).map (·.1):=List.mem_map_of_mem hx
    rw[ziF hbl] at this
    obtain ⟨y,hy,hye⟩:=List.mem_map.1 this
    rw[←hye];exact (ok.2.2.2.1 y hy).f.le) he.f.le) (by rw[ziF hbl];exact hB) (by rw[ziF hbl,hfd];exact hA.symm)
  have hd:RepD prog W (· <W.heap.size) (zvB (zle ks bs)) vc:=by
   have:RepD prog w (· <w.heap.size) (.sl tSN (zaN (skP ks) bs)) vc:=h3.data h7 rfl (fun j x y hx hy=>by rw[hx] at hy;cases hy;exact ⟨rfl,fun us k=>(zr _).frame k (fun _ _=>rfl) fun b hb=>(hS b hb).1⟩) fun k hk=>h3.row_lt hk
   rw[zka] at this
   exact (this.ext hW).mono fun b hb=>Nat.lt_of_lt_of_le hb hW.size
  have hu2:RepA prog (· <W.heap.size) noB noH W (leA (zX e)) u:=by
   obtain ⟨us,hq,ha⟩:=hu
   refine ⟨us,hq,ha.imp fun x y hx k=>?_⟩
   obtain ⟨d,_,rfl⟩:=List.mem_map.1 hx
   exact ((show RepD _ w S d y from k).ext hW).mono fun b hb=>Nat.lt_of_lt_of_le (hS b hb).1 hW.size
  refine (hc.2 W (· <W.heap.size) [vc,u,_] (fun b hb=>hb) (.cons hd (.cons hu2 (.cons (RepD.v rfl) .nil)))).mono ?_
  rintro en W' ⟨v,r,rfl,rfl,hv,hE⟩
  refine ⟨?_,hE⟩
  obtain ⟨us,rfl,ha⟩:=hv
  obtain ⟨p1,us,rfl,k1,ha⟩:=ha.inv
  obtain ⟨p2,us,rfl,k2,ha⟩:=ha.inv
  cases ha.inv0
  obtain ⟨x1,e1,k1⟩:=k1
  obtain ⟨x2,e2,k2⟩:=k2
  cases e1;cases e2
  cases (show RepD _ W' _ (dI i) p1 from k1)
  cases (show RepD _ W' _ (dB fd) p2 from k2)
  rfl
 obtain ⟨us,hq,ha⟩:=(show ∃us,u= .agg (List.toArray us)∧All2 (RepC prog S noB noH w) (cls (eD e)) us from hu)
 have hul:us.length=4:=by rw[←ha.length];obtain ⟨d0,d1,d2,d3,hd,_⟩:=zbl (zX e);show (cls (leD (zX e))).length=4;rw[hd];rfl
 have h1e:∀x∈us,x.oneCell'=true:=fun x hx=>by obtain ⟨y,_,hy⟩:=ha.mem x hx;exact RepC.one hy
 have hud:RDs prog w S (eD e) us:=by
  have key:∀(l:List D) (us:List Value),All2 (RepC prog S noB noH w) (cls l) us→All2 (RepD prog w S) l us:=fun l=>by
   induction l with
   |nil=>intro us h;rw[h.inv0];exact .nil
   |cons d l ih=>intro us h;obtain ⟨y,ys,rfl,h1,h2⟩:=h.inv;exact .cons h1 (ih ys h2)
  exact key _ _ ha
 obtain ⟨u0,u1,u2,u3,rfl⟩:∃u0 u1 u2 u3,us= [u0,u1,u2,u3]:=by
  match us,hul with
  | [u0,u1,u2,u3],_=>exact ⟨_,_,_,_,rfl⟩
 subst hq
 clear hu
 have eF:∀X:List Nat,b::(vm.ownBlock.toList++(vc.ownBlock.toList++X))=(b::(vm.ownBlock.toList++vc.ownBlock.toList))++X:=fun X=>by simp
 have nd:=h5
 rw[List.nodup_cons,List.nodup_append] at h5
 obtain ⟨n1,nvm,h5,n2⟩:=h5
 rw[List.nodup_append] at h5
 obtain ⟨nvc,nG,n3⟩:=h5
 simp only [List.mem_append,Option.mem_toList,not_or] at n1 n2 n3
 have hSF:∀x,S x→x<w.heap.size∧x≠b∧vm.ownBlock≠some x∧vc.ownBlock≠some x∧x∉FS.flatten:=fun x hx=>by
  have h:=hS x hx
  simp only [List.mem_cons,List.mem_append,Option.mem_toList,not_or] at h
  exact ⟨h.1,h.2.1,h.2.2.1,h.2.2.2.1,h.2.2.2.2⟩
 have hbw:b<w.heap.size:=hFw b (by simp)
 have hnum:(ks.es.length+1)*40≤140737488351232:=by omega
 by_cases hf:zgC e ks.es
 ·obtain ⟨x,hx,hx0⟩:=hf
  have hf:zgC e ks.es:=⟨x,hx,hx0⟩
  rw[←hi] at hx
  have hilt:i<ks.es.length:=(List.getElem?_eq_some_iff.1 hx).1
  obtain ⟨g,cap,cur,rfl,g2,g3,_,_,g6⟩:=World.ownsRow.one hown (by omega)
  obtain ⟨b2,hb2⟩:∃b2,bs[i]? =some b2:=⟨_,List.getElem?_eq_getElem (by omega)⟩
  have hFl:FS.length=ks.es.length:=by rw[hk.2.1,zeg,List.length_map,PK.ss_length]
  obtain ⟨F2,hF2⟩:∃F2,FS[i]? =some F2:=⟨_,List.getElem?_eq_getElem (by omega)⟩
  have hrow:(zaN (skP ks) bs)[i]? =some (eD x++ [ptB b2]):=by
   rw[zda,zfx,List.getElem?_zipWith,List.getElem?_map,hx,hb2];rfl
  have hcell:w.cell? ⟨g,i*5+4,none⟩=some (.pointer (some ⟨b2,0,none⟩)):=by
   have hr:=hel.2 i _ hrow
   have h44:(eD x++ [ptB b2])[4]? =some (ptB b2):=by
    obtain ⟨d0,d1,d2,d3,hd,_⟩:=zbl (zX x)
    show (leD (zX x)++ [ptB b2])[4]? =_
    rw[hd];rfl
   obtain ⟨y,hy,hyr⟩:=All2.at hr h44
   cases (show RepD _ w _ (ptB b2) y from hyr)
   rw[List.getElem?_take,if_pos (by omega),List.getElem?_drop,←g6,List.getElem?_take] at hy
   split at hy
   ·exact zh g2 (by simpa using hy)
   ·cases hy
  have hkid:HasS prog S w (stP (ZW e ks)) b2 F2:=hk.2.2 i _ b2 F2 (by rw[zeg,List.getElem?_map,hi,zov e (by rw[←hi];exact hx) hx0];rfl) hb2 hF2
  have hF2F:∀y∈F2,y∈FS.flatten:=fun y hy=>List.mem_flatten.2 ⟨F2,List.mem_of_getElem? hF2,hy⟩
  refine (znH w b vm g _ cap i T u0 u1 u2 u3 _ h1 hilt (by omega) h1e hcell (hbs true (by simp [hf]))).mono ?_
  rintro en w' ⟨rfl,hE⟩
  refine ⟨b2,F2,rfl,HasS.frame _ hkid (fun y hy=>hE.block y (hSF y hy).1) (fun y hy=>hE.block y (HasS.blocks _ hkid y hy)) fun _ h=>h,fun y hy=>.inl (by rw[eF];exact List.mem_append_right _ (hF2F y hy)),.ofExt hE,?_⟩
  rintro t w2 ⟨F',S',k1,k2,k3,k4,k5,k6⟩
  have hEs:=hE.size
  have stay:∀y,y<w.heap.size→y∉F2→w2.heap[y]? =w.heap[y]? :=fun y hy hn=>(k6.block y (by omega) hn).trans (hE.block y hy)
  have sameS:Same S w w2:=fun y hy=>stay y (hSF y hy).1 fun h=>(hSF y hy).2.2.2.2 (hF2F y h)
  have hrow2:zaN (skP (zbA e t ks)) bs=zaN (skP ks) bs:=by rw[zda,zda,zfx,zfx,(zfv e t hf).1]
  have hts:(skP (zbA e t ks)).ts=(skP ks).ts.set i (stP t):=by rw[zeg,zeg,(zfv e t hf).2,hi,List.map_set]
  have hlt:∀y∈(b::(vm.ownBlock.toList++(Value.slice (some ⟨g,0,none⟩) ks.es.length cap).ownBlock.toList))++FS.flatten,y<w'.heap.size:=fun y hy=>by
   have:=hFw y (by rw[eF];exact hy)
   omega
  refine ⟨b::(vm.ownBlock.toList++((Value.slice (some ⟨g,0,none⟩) ks.es.length cap).ownBlock.toList++(FS.set i F').flatten)),S',?_,k2,fun y hy=>?_,fun y hy=>⟨(k4 y hy).1,?_⟩,fun y hy=>?_,?_⟩
  ·simp only [stP,HasS]
   refine ⟨vm,_,T,bs,(FS.set i F').flatten,(stay b hbw fun h=>n1.2.2 (hF2F b h)).trans h1,h2.frame (zr _) (fun y hy=>stay y (h2.row_lt hy) fun h=>n2 y hy y (.inr (hF2F y h)) rfl) (fun y hy=>sameS y hy.1) (fun _ h=>h) k2,?_,(zeL _ _ _).2 ⟨_,?_,rfl⟩,rfl,?_,h6,by rw[hrow2];exact h7⟩
   ·rw[hrow2]
    exact h3.frame (zr _) (fun y hy=>stay y (h3.row_lt hy) fun h=>n3 y hy y (hF2F y h) rfl) (fun y hy=>sameS y hy.1) (fun _ h=>h) k2
   ·rw[hts]
    exact hk.put hb2 hF2 k1 sameS stay nG k2
   ·rw[eF]
    rw[eF] at nd
    exact zpI nd hF2 (HasS.nodup _ k1) hlt k5
  ·rcases k3 y hy with h|h|h
   ·exact .inl h
   ·exact .inr (.inl (by rw[eF];exact List.mem_append_right _ (hF2F y h)))
   ·exact .inr (.inr (by omega))
  ·rw[eF]
   have k4y:=(k4 y hy).2
   have old:y∉F2→y<w.heap.size→S y:=fun h1 h2=>by
    rcases k3 y hy with h|h|h
    ·exact h
    ·exact absurd h h1
    ·omega
   have inA:y∉FS.flatten→y∉(b::(vm.ownBlock.toList++(Value.slice (some ⟨g,0,none⟩) ks.es.length cap).ownBlock.toList)):=fun hn hA=>by
    have hyw:=hFw y (by rw[eF];exact List.mem_append_left _ hA)
    have hs:=hSF y (old (fun h=>hn (hF2F y h)) hyw)
    simp only [List.mem_cons,List.mem_append,Option.mem_toList] at hA
    rcases hA with h|h|h
    ·exact hs.2.1 h
    ·exact hs.2.2.1 h
    ·exact hs.2.2.2.1 h
   intro hm
   rcases List.mem_append.1 hm with hm|hm
   ·by_cases hfl:y∈FS.flatten
    ·rw[eF] at nd
     exact (List.nodup_append.1 nd).2.2 y hm y hfl rfl
    ·exact inA hfl hm
   ·obtain ⟨G,hG,hyG⟩:=List.mem_flatten.1 hm
    obtain ⟨j,hj,rfl⟩:=List.getElem_of_mem hG
    rw[List.getElem_set] at hyG
    split at hyG
    ·exact k4y hyG
    ·next hij=>
     have hj':j<FS.length:=by simpa using hj
     have hyf:y∈FS.flatten:=List.mem_flatten.2 ⟨_,List.getElem_mem hj',hyG⟩
     have hyw:=hFw y (by rw[eF];exact List.mem_append_right _ hyf)
     exact (hSF y (old (fun h=>ziG nG hij hF2 (List.getElem?_eq_getElem hj') y h hyG) hyw)).2.2.2.2 hyf
  ·rw[eF] at hy
   rcases List.mem_append.1 hy with hy|hy
   ·exact .inl (by rw[eF];exact List.mem_append_left _ hy)
   ·obtain ⟨G,hG,hyG⟩:=List.mem_flatten.1 hy
    rcases List.mem_or_eq_of_mem_set hG with hG|rfl
    ·exact .inl (by rw[eF];exact List.mem_append_right _ (List.mem_flatten.2 ⟨G,hG,hyG⟩))
    ·rcases k5 y hyG with h|h
     ·exact .inl (by rw[eF];exact List.mem_append_right _ (hF2F y h))
     ·exact .inr (by omega)
  ·exact (GrownX.ofExt hE).trans (k6.mono fun y hy=>by rw[eF];exact List.mem_append_right _ (hF2F y hy))
 ·have hvb:vc.ownBlock≠some b:=n1.2.1
  refine (zrQ w b vm vc T ks.es.length i cs u0 u1 u2 u3 h1 hown hile h1e h1c hnum hvb (hbs false (by simp [hf]))).mono ?_
  rintro en w' ⟨b2,vc',rfl,g1,g2,g3,g4,g5,g6⟩
  have hb2w:b2<w'.heap.size:=(Array.getElem?_eq_some_iff.1 g2).1
  have g6s:=g6.size
  have hGE:GrownX (· ∈b::(vm.ownBlock.toList++(vc.ownBlock.toList++FS.flatten))) w w':=g6.mono fun x hx=>by
   rcases hx with rfl|hx
   ·simp
   ·simp [hx]
  have em:HasS prog S w' (stP .empty) b2 [b2]:=by
   simp only [PS.empty,stP,skP,List.map_nil,HasS]
   refine ⟨.slice none 0 0,.slice none 0 0,ziD,[],[],g2,Build.nil,Build.nil,⟨rfl,rfl⟩,by simp [Value.ownBlock],by simp,?_,?_⟩<;>simp [zly,zaN]
  refine ⟨b2,[b2],rfl,by rw[zmn e hf];exact em,fun x hx=>.inr (by simp at hx;omega),hGE,?_⟩
  rintro t w2 ⟨F',S',k1,k2,k3,k4,k5,k6⟩
  have k6s:=k6.size
  have stay:∀y,y<w.heap.size→y≠b→vc.ownBlock≠some y→w2.heap[y]? =w.heap[y]? :=fun y hy ha hc=>(k6.block y (by omega) (by simp;omega)).trans (g6.block y hy fun h=>h.elim ha hc)
  have sameS:Same S w w2:=fun y hy=>stay y (hSF y hy).1 (hSF y hy).2.1 (hSF y hy).2.2.2.1
  have hvcw:∀y,vc.ownBlock=some y→y<w.heap.size:=fun y hy=>h3.row_lt hy
  have hv'w:∀y,vc'.ownBlock=some y→(vc.ownBlock=some y∨w.heap.size≤y)∧y≠b2∧y<w'.heap.size:=fun y hy=>by
   have hlt:=(g3.lt y hy).2
   rcases g4 with h|⟨k,h,h5,h6⟩
   ·rw[h] at hy
    exact ⟨.inl hy,by have:=hvcw y hy;omega,hlt⟩
   ·rw[h] at hy;cases hy
    exact ⟨.inr h5,h6,hlt⟩
  have hbs2:bs.length=ks.es.length:=hbl
  have hrow2:zaN (skP (zbA e t ks)) (zS i b2 bs)=zS i (eD e++ [ptB b2]) (zaN (skP ks) bs):=by
   rw[zda,zda,zfx,zfx,(ziE e t hf).1,←hi,ze0,zjc _ (by simp [hbl])]
  have hts:(skP (zbA e t ks)).ts=zS i (stP t) (skP ks).ts:=by rw[zeg,zeg,(ziE e t hf).2,←hi,ze0]
  have hF'w:∀y∈F',y=b2∨w'.heap.size≤y:=fun y hy=>by simpa using k5 y hy
  have hFlt:∀y∈FS.flatten,y<w.heap.size:=fun y hy=>hFw y (by simp [hy])
  refine ⟨b::(vm.ownBlock.toList++(vc'.ownBlock.toList++(zS i F' FS).flatten)),S',?_,k2,fun y hy=>?_,fun y hy=>⟨(k4 y hy).1,?_⟩,fun y hy=>?_,?_⟩
  ·simp only [stP,HasS]
   refine ⟨vm,vc',T,zS i b2 bs,(zS i F' FS).flatten,(k6.block b (by omega) (by simp;omega)).trans g1,h2.frame (zr _) (fun y hy=>stay y (h2.row_lt hy) (fun h=>n1.1 (h▸hy)) fun h=>n2 y hy y (.inl h) rfl) (fun y hy=>sameS y hy.1) (fun _ h=>h) k2,?_,(zeL _ _ _).2 ⟨_,?_,rfl⟩,rfl,?_,h6,?_⟩
   ·rw[hrow2,zf2]
    refine ⟨_,?_,fun _ h=>h,Elems.ins (R:=RDs prog w2 fun x=>S' x∧vc'.ownBlock≠some x) (size:=5) (xs:=zaN (skP ks) bs) (cs:=cs) (y:=eD e++ [ptB b2]) (ys:=[u0,u1,u2,u3]++ [.pointer (some ⟨b2,0,none⟩)]) (hel.imp fun x c r=>(zr _).frame r (fun y hy=>sameS y hy.1) fun y hy=>⟨k2 y hy.1,fun h=>?_⟩) i ?_ rfl⟩
    ·rw[ZV,hrl]
     refine ⟨g3.1,?_⟩
     rcases g3.2 with h0|⟨g,cap,cur,q1,q2,q3,q4⟩
     ·exact .inl h0
     ·have hg:=hv'w g (by rw[q1];rfl)
      exact .inr ⟨g,cap,cur,q1,q2,(k6.block g hg.2.2 (by simp;exact hg.2.1)).trans q3,q4⟩
    ·have hs:=hSF y hy.1
     rcases (hv'w y h).1 with h|h
     ·exact hs.2.2.2.1 h
     ·omega
    ·refine All2.append ((zr _).frame hud sameS fun y hy=>⟨k2 y hy,fun h=>?_⟩) (.cons (.v rfl) .nil)
     have hs:=hSF y hy
     rcases (hv'w y h).1 with h|h
     ·exact hs.2.2.2.1 h
     ·omega
   ·rw[hts]
    refine (hk.frame sameS (fun y hy=>stay y (hFlt y hy) (fun h=>n1.2.2 (h▸hy)) fun h=>n3 y h y hy rfl) k2).ins (by rw[zeg,List.length_map,PK.ss_length];exact hile) k1
   ·have e2:∀X:List Nat,b::(vm.ownBlock.toList++(vc'.ownBlock.toList++X))=(b::(vm.ownBlock.toList++vc'.ownBlock.toList))++X:=fun X=>by simp
    rw[e2]
    refine zpJ ?_ (HasS.nodup _ k1) fun y hy hm=>?_
    ·rw[←e2,List.nodup_cons,List.nodup_append]
     simp only [List.mem_append,Option.mem_toList,not_or]
     refine ⟨⟨n1.1,fun h=>?_,n1.2.2⟩,nvm,List.nodup_append.2 ⟨by cases vc'.ownBlock<;>simp,nG,fun x hx y hy e=>?_⟩,fun x hx y hy e=>?_⟩
     ·rcases (hv'w b h).1 with h|h
      ·exact hvb h
      ·omega
     ·subst e
      rw[Option.mem_toList] at hx
      rcases (hv'w x hx).1 with h|h
      ·exact n3 x h x hy rfl
      ·have:=hFlt x hy;omega
     ·subst e
      rcases hy with hy|hy
      ·rcases (hv'w x hy).1 with h|h
       ·exact n2 x hx x (.inl h) rfl
       ·have:=h2.row_lt hx;omega
      ·exact n2 x hx x (.inr hy) rfl
    ·simp only [List.cons_append,List.mem_cons,List.mem_append,Option.mem_toList] at hm
     have hy':=hF'w y hy
     rcases hm with h|(h|h)|h
     ·omega
     ·have:=h2.row_lt h;omega
     ·have:=hv'w y h;omega
     ·have:=hFlt y h;omega
   ·rw[hrow2]
    refine ⟨by rw[ZV,hrl,zrR];omega,fun x hx=>?_⟩
    rcases zci.1 hx with rfl|hx
    ·rw[zf2]
     obtain ⟨d0,d1,d2,d3,hd,_⟩:=zbl (zX e)
     show (leD (zX e)++ [ptB b2]).length=5
     rw[hd];rfl
    ·exact h7.2 x hx
  ·rcases k3 y hy with h|h|h
   ·exact .inl h
   ·exact .inr (.inr (by simp at h;omega))
   ·exact .inr (.inr (by omega))
  ·have k4y:=(k4 y hy).2
   have hb2F:b2∈F':=HasS.mem k1
   have hne:y≠b2:=fun h=>k4y (h▸hb2F)
   have hc:S y∨w'.heap.size≤y:=by
    rcases k3 y hy with h|h|h
    ·exact .inl h
    ·exact absurd (by simpa using h) hne
    ·exact .inr h
   intro hm
   simp only [List.mem_cons,List.mem_append,Option.mem_toList] at hm
   rcases hm with h|h|h|h
   ·rcases hc with hc|hc
    ·exact (hSF y hc).2.1 h
    ·omega
   ·rcases hc with hc|hc
    ·exact (hSF y hc).2.2.1 h
    ·have:=h2.row_lt h;omega
   ·rcases hc with hc|hc
    ·rcases (hv'w y h).1 with h|h
     ·exact (hSF y hc).2.2.2.1 h
     ·have:=(hSF y hc).1;omega
    ·have:=hv'w y h;omega
   ·obtain ⟨G,hG,hyG⟩:=List.mem_flatten.1 h
    rcases zci.1 hG with rfl|hG
    ·exact k4y hyG
    ·have hyf:y∈FS.flatten:=List.mem_flatten.2 ⟨G,hG,hyG⟩
     rcases hc with hc|hc
     ·exact (hSF y hc).2.2.2.2 hyf
     ·have:=hFlt y hyf;omega
  ·simp only [List.mem_cons,List.mem_append,Option.mem_toList] at hy ⊢
   rcases hy with h|h|h|h
   ·exact .inl (.inl h)
   ·exact .inl (.inr (.inl h))
   ·rcases (hv'w y h).1 with h|h
    ·exact .inl (.inr (.inr (.inl h)))
    ·exact .inr h
   ·obtain ⟨G,hG,hyG⟩:=List.mem_flatten.1 h
    rcases zci.1 hG with rfl|hG
    ·have:=hF'w y hyG
     exact .inr (by omega)
    ·exact .inl (.inr (.inr (.inr (List.mem_flatten.2 ⟨G,hG,hyG⟩))))
  ·refine ⟨k6.os.trans hGE.os,k6.tape.trans hGE.tape,k6.output.trans hGE.output,by omega,fun y hy hn=>?_⟩
   exact (k6.block y (by omega) (by simp;omega)).trans (hGE.block y hy hn)
def zrS:Value→Nat
 | .slice _ n _=>n
 |_=>0
theorem ze1 (s:PS):s.ins []=s:=by cases s;simp only [PS.ins]
theorem zpL {S:Nat→Prop}{w:World}{e:EV}{q:List EV}{A:Option Addr}{c:Nat}(h:RepD prog w S (zal ((e::q).map zX)) (.slice A (q.length+1) c)):
  ∃(ad:Addr) (u0 u1 u2 u3:Value),A=some ad∧w.cell? ad=some u0∧w.cell? ⟨ad.block,ad.off+1,none⟩=some u1∧w.cell? ⟨ad.block,ad.off+2,none⟩=some u2∧w.cell? ⟨ad.block,ad.off+3,none⟩=some u3∧RepA prog S noB noH w (leA (zX e)) (.agg #[u0,u1,u2,u3])∧q.length+1≤c∧(q.length+1)*32≤140737488351232∧
   (∀A',A'=(if c=1 then A else A.map (·.add 4))→∀W,RepD prog W S (zal ((e::q).map zX)) (.slice A (q.length+1) c)→RepD prog W S (zal (q.map zX)) (.slice A' q.length (c - 1))):=by
 have c4:prog.cellsOf 101=4:=by kernel_rfl
 have c32:prog.bytesOf 101=32:=by kernel_rfl
 obtain ⟨A1,c1,e1,hc,hb,hr⟩:=RepD.sl_iff.1 h
 simp only [List.map_cons,List.length_cons,List.length_map,c32] at e1 hc hb
 injection e1 with x1 x2 x3
 subst x1;subst x3
 obtain ⟨hl0,h0⟩:=hr 0 (leD (zX e)) (by simp)
 obtain ⟨ad,rfl,hrow⟩:=h0 (by rw[c4];omega)
 obtain ⟨d0,d1,d2,d3,hd,hd'⟩:=zbl (zX e)
 rw[hd] at hrow
 have z0:(ad.add (0*prog.cellsOf 101))=ad:=by simp [Addr.add]
 rw[z0] at hrow
 obtain ⟨u0,_,g0,r0⟩:=hrow 0 d0 rfl
 obtain ⟨u1,_,g1,r1⟩:=hrow 1 d1 rfl
 obtain ⟨u2,_,g2,r2⟩:=hrow 2 d2 rfl
 obtain ⟨u3,_,g3,r3⟩:=hrow 3 d3 rfl
 refine ⟨ad,u0,u1,u2,u3,rfl,by simpa [Addr.add] using g0,by simpa [Addr.add] using g1,by simpa [Addr.add] using g2,by simpa [Addr.add] using g3,?_,hc,hb,fun A' hA' W hW=>?_⟩
 ·rw[hd']
  exact ⟨[u0,u1,u2,u3],rfl,.cons r0 (.cons r1 (.cons r2 (.cons r3 .nil)))⟩
 ·obtain ⟨A2,c2,e2,hc2,hb2,hr2⟩:=RepD.sl_iff.1 hW
  simp only [List.map_cons,List.length_cons,List.length_map,c32] at e2 hc2 hb2
  injection e2 with y1 y2 y3
  subst y1;subst y3
  refine RepD.sl_iff.2 ⟨A',c - 1,by simp,by simp;omega,by simp [c32];omega,fun j r hj=>?_⟩
  obtain ⟨k1,k2⟩:=hr2 (j+1) r (by simpa using hj)
  refine ⟨k1,fun h0=>?_⟩
  obtain ⟨ad2,k3,k4⟩:=k2 h0
  cases k3
  have hj':=(List.getElem?_eq_some_iff.1 hj).1
  simp only [List.length_map] at hj'
  rw[if_neg (by omega)] at hA'
  refine ⟨ad.add 4,hA',?_⟩
  rw[c4] at k4 ⊢
  rw[zeR]
  have:4+j*4=(j+1)*4:=by omega
  rw[this];exact k4
theorem zrT (W:World)(ad:Addr)(n c:Nat)(h:n+1+1≤c):(Instr.slice 149 (.slice (some ad) (n+1+1) c) (some (.int .i64 1)) none none).run prog W= .ok (.slice (some (ad.add 4)) (n+1) (c - 1)) W:=by
 obtain ⟨i,hi',h4⟩:=Option.map_eq_some_iff.1 (show (prog.info? 101).map (·.size)=some 4 from by kernel_rfl)
 have ht:=underlying149
 have hel:prog.elem 149=101:=by simp [Program.elem,ht]
 have hu:prog.underlying 149=some (.slice (prog.elem 149)):=by rw[hel];exact ht
 have hc1:¬c=1:=by omega
 have h1:(0:Int)≤1:=by omega
 rw[run_slice_l W 149 (some ad) (n+1+1) c hu .i64 1 h1 (by omega),hel]
 simp [sizeOf,typeInfo,hi',sliced,Result.andThen,h4,hc1]
theorem zjd {S:Nat→Prop}{w:World}{s:PS}{b:Nat}{F:List Nat}{N:Nat}(p:List EV)(h:HasS prog S w (stP s) b F)(hS:∀x,S x→x<w.heap.size∧x∉F)(ok:OkS N s)(hN:(N+1)*40≤140737488351232)
  (hp:∀e∈p,GoodE e) (pv:Value) (hpv:RepD prog w S (zal (p.map zX)) pv):
  Calls prog 149 #[.pointer (some ⟨b,0,none⟩),pv] w fun en w'=>en= .returned (.tuple #[])∧zcj prog S w b F (stP (s.ins p)) w':=by
 cases p with
 |nil=>
  obtain ⟨A,c,rfl,_⟩:=RepD.sl_iff.1 hpv
  have HO:Hid (zcj prog S w b F (stP (s.ins [])) w):=by
   rw[ze1]
   exact ⟨F,S,h,fun _ h=>h,fun x h=>.inl h,hS,fun x h=>.inl h,GrownX.refl _ _⟩
  clear h hpv
  go_enter func149,ntmps149
  go_wp2
  ((try simp only [Exit.inBlock,Exit.then]);refine bodyPost_ret (results_none rfl _ _ _) rfl ?_)
  exact ⟨rfl,HO.out⟩
 |cons e0 q0=>
  obtain ⟨A0,c0,e1,hc0,hb0,_⟩:=RepD.sl_iff.1 hpv
  have c32:prog.bytesOf 101=32:=by kernel_rfl
  simp only [List.length_map,List.length_cons,c32] at e1 hb0
  subst e1
  have hq0:q0.length+1≤9223372036854775807:=by omega
  have HI:Hid (RepD prog w S (zal ((e0::q0).map zX)) (.slice A0 (q0.length+1) c0)∧HasS prog S w (stP s) b F∧(∀x,S x→x<w.heap.size∧x∉F)∧OkS N s∧(∀y∈e0::q0,GoodE y)∧∀w2,zcj prog S w b F (stP (s.ins (e0::q0))) w2→zcj prog S w b F (stP (s.ins (e0::q0))) w2):=
   Lib.hid ⟨hpv,h,hS,ok,hp,fun _ h=>h⟩
  clear hpv h hS ok hp hc0 hb0
  go_enter func149,ntmps149
  go_wp2
  go_loopw [0,1] (fun v0 v1 wr=>∃(s':PS) (e:EV) (q:List EV) (b':Nat) (F':List Nat) (A:Option Addr) (c:Nat),v0= .pointer (some ⟨b',0,none⟩)∧v1= .slice A (q.length+1) c∧Hid (RepD prog wr S (zal ((e::q).map zX)) (.slice A (q.length+1) c)∧HasS prog S wr (stP s') b' F'∧(∀x,S x→x<wr.heap.size∧x∉F')∧OkS N s'∧(∀y∈e::q,GoodE y)∧∀w2,zcj prog S wr b' F' (stP (s'.ins (e::q))) w2→zcj prog S w b F (stP (s.ins (e0::q0))) w2)) (fun _ v1 _=>zrS v1)
  case atStart=>exact ⟨s,e0,q0,b,F,A0,c0,rfl,rfl,HI⟩
  case round=>
   obtain ⟨s',e,q,b',F',A,c,rfl,rfl,hI⟩:=hrel
   have HId:Hid (RepD prog wr.drew S (zal ((e::q).map zX)) (.slice A (q.length+1) c)∧HasS prog S wr.drew (stP s') b' F'∧(∀x,S x→x<wr.drew.heap.size∧x∉F')∧OkS N s'∧(∀y∈e::q,GoodE y)∧∀w2,zcj prog S wr.drew b' F' (stP (s'.ins (e::q))) w2→zcj prog S w b F (stP (s.ins (e0::q0))) w2):=by
    obtain ⟨h1,h2,h3,h4,h5,h6⟩:=hI.out
    have hE:Ext wr wr.drew:=(Ext.refl wr).drew
    refine Lib.hid ⟨h1.ext hE,HasS.frame _ h2 (fun _ _=>rfl) (fun _ _=>rfl) fun _ h=>h,h3,h4,h5,fun w2 hO=>h6 w2 ?_⟩
    obtain ⟨F2,S2,k1,k2,k3,k4,k5,k6⟩:=hO
    exact ⟨F2,S2,k1,k2,k3,k4,k5,(GrownX.ofExt hE).trans k6⟩
   obtain ⟨ad,u0,u1,u2,u3,rfl,g0,g1,g2,g3,hu,hqc,hqb,hnext⟩:=zpL HId.out.1
   have HU:=Lib.hid hu;have HN:=Lib.hid hnext
   clear hu hnext
   cases q with
   |nil=>
    simp only [List.length_nil,Nat.zero_add] at hqc hqb ⊢
    go_wp2
    refine ZF [6] (by kernel_rfl) ?_
    clear hI
    generalize wr.drew=w4 at HId HU HN g0 g1 g2 g3 ⊢
    refine ZA (listed':=lst 7 [0,1,2,3,4,5]) [0,1,2,3,4,5] 1 (by kernel_rfl) (fun _ _ _ _ h=>h) (by kernel_rfl) rfl (by kernel_rfl) ?_
    repeat (refine zV rfl ?_;go_big_quiet_step (fail);refine wpQuiet_nil ?_)
    refine Zf ?_
    refine zca (n:=0) (i:=6) (listed':=lst 7 [0,1,2,3,4,5,6]) (by kernel_rfl) rfl rfl rfl (by kernel_rfl) ?_
    go_wp2_with fail
    obtain ⟨ms,ks⟩:=s'
    refine (zmp HId.out.2.1 HId.out.2.2.1 HId.out.2.2.2.1 hN e (HId.out.2.2.2.2.1 e (by simp)) _ HU.out).mono ?_
    rintro en w5 ⟨rfl,hO⟩
    have HO:=Lib.hid (HId.out.2.2.2.2.2 w5 hO)
    clear hO
    go_wp2_with fail
    refine zcf (by kernel_rfl) ?_
    go_wp2
    refine bodyPost_ret (results_none rfl _ _ _) rfl ?_
    exact ⟨rfl,HO.out⟩
   |cons f q'=>
    have hlen:(f::q').length=q'.length+1:=rfl
    rw[hlen] at hqc hqb ⊢
    have hq1:q'.length+1+1≤9223372036854775807:=by omega
    have hcut:=fun W=>zrT W ad q'.length c hqc
    go_wp2
    refine ZF [6] (by kernel_rfl) ?_
    clear hI
    generalize wr.drew=w4 at HId HU HN g0 g1 g2 g3 ⊢
    refine ZA (listed':=lst 8 [0,1,2,3,4,5]) [0,1,2,3,4,5] 2 (by kernel_rfl) (fun _ _ _ _ h=>h) (by kernel_rfl) rfl (by kernel_rfl) ?_
    repeat (refine zV rfl ?_;go_big_quiet_step (fail);refine wpQuiet_nil ?_)
    refine Zf ?_
    refine zca (n:=1) (i:=6) (listed':=lst 8 [0,1,2,3,4,5,6]) (by kernel_rfl) rfl rfl rfl (by kernel_rfl) ?_
    go_wp2_with fail
    obtain ⟨ms,ks⟩:=s'
    refine (zmq HId.out.2.1 HId.out.2.2.1 HId.out.2.2.2.1 hN e (HId.out.2.2.2.2.1 e (by simp)) _ HU.out).mono ?_
    rintro en w5 ⟨b2,F2,rfl,hk2,hF2,hG,hwand⟩
    have HI5:Hid (RepD prog w5 S (zal ((f::q').map zX)) (.slice (some (ad.add 4)) (q'.length+1) (c - 1))∧HasS prog S w5 (stP (ZW e ks)) b2 F2∧(∀x,S x→x<w5.heap.size∧x∉F2)∧OkS N (ZW e ks)∧(∀y∈f::q',GoodE y)∧∀w2,zcj prog S w5 b2 F2 (stP ((ZW e ks).ins (f::q'))) w2→zcj prog S w b F (stP (s.ins (e0::q0))) w2):=by
     obtain ⟨k1,k2,k3,k4,k5,k6⟩:=HId.out
     refine Lib.hid ⟨?_,hk2,fun x hx=>⟨Nat.lt_of_lt_of_le (k3 x hx).1 hG.size,fun hx2=>?_⟩,?_,fun y hy=>k5 y (List.mem_cons_of_mem _ hy),fun w2 hO=>k6 w2 ?_⟩
     ·have h1:=HN.out (some (ad.add 4)) (by rw[if_neg (by omega)];rfl) w4 k1
      exact h1.frame (fun x hx=>hG.block x (k3 x hx).1 (k3 x hx).2) fun _ h=>h
     ·rcases hF2 x hx2 with h|h
      ·exact (k3 x hx).2 h
      ·have:=(k3 x hx).1;omega
     ·simp only [OkS] at k4
      exact zef e k4.2.2.2.2.2.2
     ·have:=hwand _ w2 hO
      simp only [PS.ins]
      exact this
    clear hk2 hF2 hG hwand
    go_wp2_with fail
    refine ZA (listed':=lst 8 [0,1,2,3,4,5,6,7]) [7] 0 (by kernel_rfl) (fun _ _ _ _ h=>h) (by kernel_rfl) rfl (by kernel_rfl) ?_
    repeat (refine zV rfl ?_;go_big_quiet_step (fail);refine wpQuiet_nil ?_)
    refine Zf ?_
    refine zcf (by kernel_rfl) ?_
    go_wp2
    go_roundw
    case rel=>
     have ea:ad.add 4=⟨ad.block,ad.off+4,none⟩:=by simp [Addr.add]
     rw[ea] at HI5
     exact ⟨_,_,_,_,_,_,_,_,_,_,_,_,_,_,_,_,_,_,_,_,_,⟨ZW e ks,f,q',b2,F2,some ⟨ad.block,ad.off+4,none⟩,c - 1,rfl,rfl,HI5⟩,rfl⟩
    case measure=>simp [zrS]
end Go.Smd
end
