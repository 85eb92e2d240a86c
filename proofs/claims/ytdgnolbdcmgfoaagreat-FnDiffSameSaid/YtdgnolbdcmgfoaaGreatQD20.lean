/- Part 20. -/
import Derived.Test.YtdgnolbdcmgfoaaGreatQD02
import Derived.Laws.FloatBits
import Derived.Test.YtdgnolbdcmgfoaaGreatQD19
import Derived.Test.YtdgnolbdcmgfoaaGreatQD14
set_option linter.unusedVariables false
set_option linter.unusedSimpArgs false
set_option maxRecDepth 100000
set_option maxHeartbeats 8000000
section
namespace Go.Smd
open Go.RowKit Go.Proofs Go.Proofs.Tryz
mutual
def zaM:Tree→Prop
 | .list l=>l.length*88≤140737488351232∧FitsL l
 | .map m=>m.length*88≤140737488351232∧(m.map (·.1)).Nodup∧FitsM m
 |_=>True
def FitsL:List Tree→Prop
 | []=>True
 |x::l=>zaM x∧FitsL l
def FitsM:List (ByteArray×Tree)→Prop
 | []=>True
 |p::m=>zaM p.2∧FitsM m
end
theorem FitsL.mem:∀{l:List Tree},FitsL l→∀x∈l,zaM x
 | [],_,x,h=>by cases h
 |y::l,hf,x,h=>by
  simp only [FitsL] at hf
  rcases List.mem_cons.1 h with rfl|h
  ·exact hf.1
  ·exact FitsL.mem hf.2 x h
theorem FitsM.mem:∀{m:List (ByteArray×Tree)},FitsM m→∀p∈m,zaM p.2
 | [],_,x,h=>by cases h
 |y::l,hf,x,h=>by
  simp only [FitsM] at hf
  rcases List.mem_cons.1 h with rfl|h
  ·exact hf.1
  ·exact FitsM.mem hf.2 x h
theorem zog (k q:ByteArray)(t:Tree):∀m:zaR,q∈(ins k t m).map (·.1)↔q=k∨q∈m.map (·.1)
 | []=>by simp [ins]
 |p::m=>by
  simp only [ins]
  by_cases h:p.1=k
  ·rw[if_pos h];simp [h]
  ·rw[if_neg h]
   have:=zog k q t m
   simp only [List.map_cons,List.mem_cons,this]
   constructor<;>rintro (h|h|h)<;>simp [h]
theorem zrr {k:ByteArray}{t:Tree}{p:ByteArray×Tree}:∀{m:zaR},p∈ins k t m→p=(k,t)∨p∈m
 | [],h=>by simp [ins] at h;exact .inl h
 |q::m,h=>by
  simp only [ins] at h
  split at h
  ·rcases List.mem_cons.1 h with h|h
   ·exact .inl h
   ·exact .inr (List.mem_cons_of_mem _ h)
  ·rcases List.mem_cons.1 h with h|h
   ·exact .inr (h▸List.mem_cons_self ..)
   ·rcases zrr h with h|h
    ·exact .inl h
    ·exact .inr (List.mem_cons_of_mem _ h)
theorem zjN {k:ByteArray}{t:Tree}:∀{m:zaR},(m.map (·.1)).Nodup→((ins k t m).map (·.1)).Nodup
 | [],_=>by simp [ins]
 |q::m,h=>by
  simp only [List.map_cons,List.nodup_cons] at h
  simp only [ins]
  split
  ·next e=>simp only [List.map_cons,List.nodup_cons];rw[←e];exact h
  ·next e=>
   simp only [List.map_cons,List.nodup_cons]
   refine ⟨fun hm=>?_,zjN h.2⟩
   rcases (zog k q.1 t m).1 hm with h'|h'
   ·exact e h'
   ·exact h.1 h'
theorem zrs (k:ByteArray)(t:Tree):∀m:zaR,(ins k t m).length≤m.length+1
 | []=>by simp [ins]
 |q::m=>by simp only [ins];split<;>simp;exact zrs k t m
theorem zii:∀(ks:List ByteArray) (ts:List Tree) (m:zaR),(m.map (·.1)).Nodup→(∀p∈m,zaM p.2)→(∀t∈ts,zaM t)→
  ((ZE ks ts m).map (·.1)).Nodup∧(∀p∈ZE ks ts m,zaM p.2)∧(ZE ks ts m).length≤m.length+ts.length
 | [],ts,m,h1,h2,_=>by cases ts<;>exact ⟨by simpa [ZE] using h1,by simpa [ZE] using h2,by simp [ZE]⟩
 |k::ks,[],m,h1,h2,_=>⟨by simpa [ZE] using h1,by simpa [ZE] using h2,by simp [ZE]⟩
 |k::ks,t::ts,m,h1,h2,h3=>by
  simp only [ZE]
  obtain ⟨a,b,c⟩:=zii ks ts (ins k t m) (zjN h1) (fun p hp=>by
   rcases zrr hp with rfl|hp
   ·exact h3 t (List.mem_cons_self ..)
   ·exact h2 p hp) fun t ht=>h3 t (List.mem_cons_of_mem _ ht)
  exact ⟨a,b,by have:=zrs k t m;simp;omega⟩
theorem FitsL.of:∀{l:List Tree},(∀x∈l,zaM x)→FitsL l
 | [],_=>by simp [FitsL]
 |x::l,h=>by simp only [FitsL];exact ⟨h x (List.mem_cons_self ..),FitsL.of fun y hy=>h y (List.mem_cons_of_mem _ hy)⟩
theorem FitsM.of:∀{l:List (ByteArray×Tree)},(∀x∈l,zaM x.2)→FitsM l
 | [],_=>by simp [FitsM]
 |x::l,h=>by simp only [FitsM];exact ⟨h x (List.mem_cons_self ..),FitsM.of fun y hy=>h y (List.mem_cons_of_mem _ hy)⟩
theorem zpr {S:Nat→Prop}{w:World}{v:GV}{cs:List Value}(h:RepGV S w v cs):zaM (Zb v):=by
 induction h with
 | @mk kind n f s keys l ka la kc lc ok hkc hlc hk ll hl hc ih=>
  have hall:∀t∈treesOf l,zaM t:=fun t ht=>by
   rw[zaA] at ht
   obtain ⟨x,hx,rfl⟩:=List.mem_map.1 ht
   obtain ⟨j,hj,rfl⟩:=List.getElem_of_mem hx
   exact ih j l[j] (List.getElem?_eq_getElem hj)
  have hlen:(treesOf l).length=l.length:=by rw[zaA,List.length_map]
  have hL:=ok.okL
  simp only [Zb]
  repeat' split
  all_goals (try trivial)
  all_goals (try simp only [zaM])
  ·exact ⟨by rw[hlen];exact hL,FitsL.of hall⟩
  ·obtain ⟨a,b,c⟩:=zii keys (treesOf l) [] (by simp) (by simp) hall
   refine ⟨?_,a,FitsM.of b⟩
   rw[hlen] at c
   simp at c
   omega
def zvv (a b:Nat):Option Ordering:=FloatKind.f64.format.order a b
theorem zrt {a:Nat}(h:zvv a a=some .eq):(FloatKind.f64.format.read a).isNaN=false:=by
 unfold zvv Ieee.Format.order at h
 cases hx:FloatKind.f64.format.read a<;>simp_all [Ieee.Datum.isNaN,Ieee.Datum.order]
theorem zjO (neg:Bool)(r:Nat)(hr:r≤Ieee.double.infRung):(Ieee.double.read (Ieee.double.word neg r)).isNaN=false:=by
 have hinf:Ieee.double.infRung=9218868437227405312:=by decide+kernel
 have hsw:Ieee.double.signWeight=9223372036854775808:=by decide+kernel
 have hm:Ieee.double.word neg r % Ieee.double.signWeight=r:=by
  rw[hsw];unfold Ieee.Format.word;rw[hsw];split<;>omega
 unfold Ieee.Format.read
 simp only [hm]
 split
 ·rfl
 ·split
  ·rfl
  ·split
   ·rfl
   ·omega
theorem zmc (n:Int):(FloatKind.f64.format.read (FloatKind.f64.nearest n)).isNaN=false:=by
 unfold FloatKind.nearest FloatKind.encode FloatKind.format
 simp only [Ieee.Format.write,Ieee.Format.nearest]
 split
 ·exact zjO _ _ (Nat.zero_le _)
 ·exact zjO _ _ (Nat.min_le_right _ _)
mutual
def dep:Tree→Nat
 | .list l=>depL l+1
 | .map m=>depM m+1
 |_=>1
def depL:List Tree→Nat
 | []=>0
 |x::l=>max (dep x) (depL l)
def depM:List (ByteArray×Tree)→Nat
 | []=>0
 |p::m=>max (dep p.2) (depM m)
end
theorem zij:∀{l:List Tree} {x:Tree},x∈l→dep x≤depL l
 | [],_,h=>by cases h
 |y::l,x,h=>by
  simp only [depL]
  rcases List.mem_cons.1 h with rfl|h
  ·exact Nat.le_max_left _ _
  ·exact Nat.le_trans (zij h) (Nat.le_max_right _ _)
theorem zik:∀{m:List (ByteArray×Tree)} {p:ByteArray×Tree},p∈m→dep p.2≤depM m
 | [],_,h=>by cases h
 |y::l,x,h=>by
  simp only [depM]
  rcases List.mem_cons.1 h with rfl|h
  ·exact Nat.le_max_left _ _
  ·exact Nat.le_trans (zik h) (Nat.le_max_right _ _)
theorem zoh (x:Tree):1≤dep x:=by cases x<;>simp [dep]
noncomputable def zjP (m1 m2:List (ByteArray×Tree)):List ByteArray:=open Classical in if h:∃ss,zbB m1 m2 ss then Classical.choose h else []
theorem zmd {m1 m2:List (ByteArray×Tree)}{ss:List ByteArray}(h:zbB m1 m2 ss):ss=zjP m1 m2:=by
 have hx:∃ss,zbB m1 m2 ss:=⟨ss,h⟩
 unfold zjP
 rw[dif_pos hx]
 have k:=Classical.choose_spec hx
 exact zgv h.1 k.1 fun q=>by rw[h.2 q,k.2 q]
noncomputable def zk6:Nat→Tree→Tree→Int
 |0,_,_=>0
 |n+1,x,y=>zvu (zgu (zk6 n)) (fun a b=>zc8 (zk6 n) a b 0 (zjP a b)) x y
theorem zgw:∀(n:Nat) (x y:Tree),dep x≤n→zaM x→zaM y→ACalls prog zbm [Z4,.c (.d (dV x)),.c (.d (dV y))] (fun r=>r=aV (.int .i64 (zk6 n x y)))
 |0,x,y,h,_,_=>by have:=zoh x;omega
 |n+1,x,y,h,hx,hy=>by
  refine zie (zgu (zk6 n)) (fun a b=>zc8 (zk6 n) a b 0 (zjP a b)) x y (fun l m e1 e2=>?_) fun l m e1 e2=>?_
  ·subst e1;subst e2
   simp only [zaM] at hx hy
   simp only [dep] at h
   exact zfp _ l m (by omega) (by omega) fun a ha b hb=>zgw n a b (by have:=zij ha;omega) (hx.2.mem a ha) (hy.2.mem b hb)
  ·subst e1;subst e2
   simp only [zaM] at hx hy
   simp only [dep] at h
   refine (zfV (zk6 n) l m hx.2.1 hy.2.1 (by omega) fun a ha b hb=>zgw n a.2 b.2 (by have:=zik ha;omega) (hx.2.2.mem a ha) (hy.2.2.mem b hb)).mono ?_
   rintro r ⟨ss,hss,rfl⟩
   rw[zmd hss]
theorem ze6:∀l m:List UInt8,Lib.compareBytes l m=0↔l=m
 | [],[]=>by simp [Lib.compareBytes]
 | [],_::_=>by simp [Lib.compareBytes]
 |_::_,[]=>by simp [Lib.compareBytes]
 |x::l,y::m=>by
  have ih:=ze6 l m
  simp only [Lib.compareBytes,List.cons.injEq]
  by_cases h1:x<y
  ·have hne:x≠y:=fun e=>by subst e;exact absurd h1 (UInt8.lt_irrefl x)
   simp [h1,hne]
  ·by_cases h2:y<x
   ·have hne:x≠y:=fun e=>by subst e;exact absurd h2 (UInt8.lt_irrefl x)
    simp [h1,h2,hne]
   ·have he:x=y:=by
     rw[UInt8.lt_iff_toNat_lt] at h1 h2
     exact UInt8.toNat_inj.1 (by omega)
    subst he
    simp [h1,ih]
theorem zru (m1 m2:List (ByteArray×Tree))(h:∃ss,zbB m1 m2 ss):zbB m1 m2 (zjP m1 m2):=by
 obtain ⟨ss,h⟩:=h
 rw[←zmd h];exact h
theorem zfW {l:List ByteArray}(h:l.Pairwise fun a b=>blt a b=true):l.Nodup:=h.imp fun h=>zm4 h
theorem zil:∀{l m:List ByteArray},l.Nodup→(∀q∈l,q∈m)→l.length≤m.length
 | [],_,_,_=>Nat.zero_le _
 |x::l,m,hn,h=>by
  rw[List.nodup_cons] at hn
  have hx:=h x (List.mem_cons_self ..)
  have h1:=zil (l:=l) (m:=m.filter fun q=>decide (q≠x)) hn.2 fun q hq=>by
   have hne:q≠x:=fun e=>hn.1 (e▸hq)
   exact List.mem_filter.2 ⟨h q (List.mem_cons_of_mem _ hq),by simpa using hne⟩
  have h2:(m.filter fun q=>decide (q≠x)).length<m.length:=List.length_filter_lt_length_iff_exists.2 ⟨x,hx,by simp⟩
  simp only [List.length_cons];omega
theorem zim {l m:List ByteArray}(h1:l.Nodup)(h2:m.Nodup)(h:∀q,q∈l↔q∈m):l.length=m.length:=
 Nat.le_antisymm (zil h1 fun q hq=>(h q).1 hq) (zil h2 fun q hq=>(h q).2 hq)
theorem zin (x:ByteArray):∀ss:List ByteArray,ss.Pairwise (fun a b=>blt a b=true)→∃s2:List ByteArray,s2.Pairwise (fun a b=>blt a b=true)∧∀q,q∈s2↔q=x∨q∈ss
 | [],_=>⟨[x],List.pairwise_singleton ..,by simp⟩
 |y::ss,h=>by
  rw[List.pairwise_cons] at h
  rcases zeX x y with hb|rfl|hb
  ·refine ⟨x::y::ss,List.pairwise_cons.2 ⟨fun q hq=>?_,List.pairwise_cons.2 h⟩,by simp⟩
   rcases List.mem_cons.1 hq with rfl|hq
   ·exact hb
   ·exact Zv hb (h.1 q hq)
  ·exact ⟨x::ss,List.pairwise_cons.2 h,by simp⟩
  ·obtain ⟨s2,h1,h2⟩:=zin x ss h.2
   refine ⟨y::s2,List.pairwise_cons.2 ⟨fun q hq=>?_,h1⟩,fun q=>?_⟩
   ·rcases (h2 q).1 hq with rfl|hq
    ·exact hb
    ·exact h.1 q hq
   ·simp only [List.mem_cons,h2]
    constructor<;>rintro (h|h|h)<;>simp [h]
theorem zi9 (l:List ByteArray):∃ss:List ByteArray,ss.Pairwise (fun a b=>blt a b=true)∧∀q,q∈ss↔q∈l:=by
 induction l with
 |nil=>exact ⟨[],.nil,by simp⟩
 |cons x l ih=>
  obtain ⟨ss,h1,h2⟩:=ih
  obtain ⟨s2,h3,h4⟩:=zin x ss h1
  exact ⟨s2,h3,fun q=>by rw[h4,h2,List.mem_cons]⟩
theorem zk7 (m1 m2:List (ByteArray×Tree)):∃ss,zbB m1 m2 ss:=by
 obtain ⟨ss,h1,h2⟩:=zi9 (m1.map (·.1)++m2.map (·.1))
 exact ⟨ss,h1,fun q=>by rw[h2,List.mem_append]⟩
theorem zdC (S:Nat→Prop)(w:World){kind n:Int}{f:Nat}{s:ByteArray}(ok:GVok kind n f s [] []):RepGV S w (.mk kind n f s [] []) [.int .i64 kind,.int .i64 n,.float .f64 f,.string s,.slice none 0 0,.slice none 0 0]:=
 RepGV.close (keys:=[]) (l:=[]) ok (Nat.zero_le _) (Nat.zero_le _) RowOf.nil RowOf.nil
theorem ztG:∀v,znj v:=by
 intro v
 induction v using GV.ind with
 |h kind n f s keys l IH=>
 intro cs w S hv
 obtain ⟨ka,kc,la,lc,rfl,ok,hkc,hlc,hks,hls⟩:=hv.open
 obtain ⟨nk,hnk⟩:∃n,keys.length=n:=⟨_,rfl⟩
 obtain ⟨nl,hnl⟩:∃n,l.length=n:=⟨_,rfl⟩
 have hn:=ok.okN
 have hf:=ok.okF
 have hs:=ok.okS
 have h2:=ok.okL
 have HC:Hid (zL (.mk kind n f s keys l)=if kind=1 then .mk 1 (if n=0 then 0 else 1) 0 ⟨#[]⟩ [] [] else if kind=2 then .mk 2 n 0 ⟨#[]⟩ [] [] else if kind=3 then .mk 3 0 f ⟨#[]⟩ [] []
  else if kind=4 then .mk 4 0 0 s [] [] else if kind=5 then .mk 5 0 0 ⟨#[]⟩ [] (cleans l) else if kind=6 then zc7 (z8 keys (cleans l) []) else .mk 0 0 0 ⟨#[]⟩ [] []):=zL.eq_1 ..
 generalize hcl:zL (.mk kind n f s keys l)=cl at HC ⊢
 rw[hnk,hnl] at hv ⊢
 have Hk:=Lib.hid hnk;have Hl:=Lib.hid hnl
 have hE0:Ext w ((w.alloc (.cells #[.int .i64 kind,.int .i64 n,.float .f64 f,.string s,.slice ka nk kc,.slice la nl lc] 27)).alloc (.cells #[.int .i64 0,.int .i64 0,.float .f64 0,.string ⟨#[]⟩,.slice none 0 0,.slice none 0 0] 27)):=((Ext.refl w).alloc _).alloc _
 have hA0:=zeq (.cells #[.int .i64 0,.int .i64 0,.float .f64 0,.string ⟨#[]⟩,.slice none 0 0,.slice none 0 0] 27) (zbP (w:=w) (.cells #[.int .i64 kind,.int .i64 n,.float .f64 f,.string s,.slice ka nk kc,.slice la nl lc] 27) rfl)
 have hB0:=zbP (w:=w.alloc (.cells #[.int .i64 kind,.int .i64 n,.float .f64 f,.string s,.slice ka nk kc,.slice la nl lc] 27)) (.cells #[.int .i64 0,.int .i64 0,.float .f64 0,.string ⟨#[]⟩,.slice none 0 0,.slice none 0 0] 27) (zz _ _)
 have hz0:w.heap.size+2≤((w.alloc (.cells #[.int .i64 kind,.int .i64 n,.float .f64 f,.string s,.slice ka nk kc,.slice la nl lc] 27)).alloc (.cells #[.int .i64 0,.int .i64 0,.float .f64 0,.string ⟨#[]⟩,.slice none 0 0,.slice none 0 0] 27)).heap.size:=by simp only [zz];omega
 go_enter func23,ntmps23
 go_upto_region 1 with fail
 generalize (w.alloc (.cells #[.int .i64 kind,.int .i64 n,.float .f64 f,.string s,.slice ka nk kc,.slice la nl lc] 27)).alloc (.cells #[.int .i64 0,.int .i64 0,.float .f64 0,.string ⟨#[]⟩,.slice none 0 0,.slice none 0 0] 27)=w2 at hE0 hA0 hB0 hz0 ⊢
 have HV:=Lib.hid (hv.ext hE0);have HLS:=Lib.hid (RepGVs.ext hls hE0)
 have a0:=zh hA0 (i:=0) rfl;have a1:=zh hA0 (i:=1) rfl;have a2:=zh hA0 (i:=2) rfl;have a3:=zh hA0 (i:=3) rfl;have a4:=zh hA0 (i:=4) rfl;have a5:=zh hA0 (i:=5) rfl
 have HE:=Lib.hid hE0;have HB:=Lib.hid hB0
 clear hv hls hks ok hE0 hA0 hB0 hkc hlc hcl
 have SN:∀v0 v1 v2 v3 v4 v5,Hid ((six w2 (w.heap.size+1) v0 v1 v2 v3 v4 v5).heap[w.heap.size+1]? =some (.cells #[v0,v1,v2,v3,v4,v5] 27 (0,0))∧Ext w (six w2 (w.heap.size+1) v0 v1 v2 v3 v4 v5)):=fun v0 v1 v2 v3 v4 v5=>⟨zgd HB.out _ _ _ _ _ _,zdd HE.out (by omega) _ _ _ _ _ _⟩
 by_cases k6:kind=6
 ·subst k6
  go_wp2_with fail
  refine (zh9 6 n f s keys l IH _ _ S HV.out).mono ?_
  rintro e w1 ⟨u,rfl,⟨cu,rfl,hu⟩,hE1⟩
  have hE2:=HE.out.trans hE1
  have HB1:=Lib.hid (hE1.heap HB.out)
  obtain ⟨f0,f1,f2,f3,f4,f5,rfl⟩:=hu.list6
  obtain ⟨p0,p1,p2,p3,p4,p5⟩:=hu.six
  have HQ:Hid ((six w1 (w.heap.size+1) f0 f1 f2 f3 f4 f5).heap[w.heap.size+1]? =some (.cells #[f0,f1,f2,f3,f4,f5] 27 (0,0))):=zgd HB1.out _ _ _ _ _ _
  have HEq:Hid (Ext w (six w1 (w.heap.size+1) f0 f1 f2 f3 f4 f5)):=zdd hE2 (by omega) _ _ _ _ _ _
  have HRq:Hid (RepGV (w.heap.size≤ ·) (six w1 (w.heap.size+1) f0 f1 f2 f3 f4 f5) (zc7 (z8 keys (cleans l) [])) [f0,f1,f2,f3,f4,f5]):=RepGV.frame (S':=(w.heap.size≤ ·)) ((zbY w1 (w.heap.size+1) _ _ _ _ _ _).mono fun b hb=>by omega) (fun b hb=>by omega) hu
  clear hu hE1 hE2
  have hz:∀o,w1.frozen? ⟨w.heap.size+1,o,none⟩=false:=fun o=>by simp [World.frozen?,HB1.out]
  have g0:=zh HB1.out (i:=0) rfl;have g1:=zh HB1.out (i:=1) rfl;have g2:=zh HB1.out (i:=2) rfl;have g3:=zh HB1.out (i:=3) rfl;have g4:=zh HB1.out (i:=4) rfl;have g5:=zh HB1.out (i:=5) rfl
  go_wp2
  (try simp only [Exit.inBlock,Exit.then]);refine bodyPost_ret (zi5 results23 rfl HQ.out) rfl ?_
  exact ⟨_,rfl,⟨_,rfl,by have:=HC.out;simp only [reduceIte,Int.reduceEq] at this;rw[this];exact HRq.out⟩,HEq.out⟩
 by_cases k5:kind=5
 ·subst k5
  go_wp2_with fail
  refine (zh8 l IH la nl lc _ S HLS.out Hl.out (by omega)).mono ?_
  rintro e w1 ⟨u,rfl,⟨A',c',rfl,hc',hu⟩,hE1⟩
  have hE2:=HE.out.trans hE1
  have HB1:=Lib.hid (hE1.heap HB.out)
  have HQ:Hid ((six w1 (w.heap.size+1) (.int .i64 5) (.int .i64 0) (.float .f64 0) (.string ⟨#[]⟩) (.slice none 0 0) (.slice A' nl c')).heap[w.heap.size+1]? =some (.cells #[.int .i64 5,.int .i64 0,.float .f64 0,.string ⟨#[]⟩,.slice none 0 0,.slice A' nl c'] 27 (0,0))):=zgd HB1.out _ _ _ _ _ _
  have HEq:Hid (Ext w (six w1 (w.heap.size+1) (.int .i64 5) (.int .i64 0) (.float .f64 0) (.string ⟨#[]⟩) (.slice none 0 0) (.slice A' nl c'))):=zdd hE2 (by omega) _ _ _ _ _ _
  have hll:(cleans l).length=nl:=by rw[zau,List.length_map,Hl.out]
  have HRq:Hid (RepGV (w.heap.size≤ ·) (six w1 (w.heap.size+1) (.int .i64 5) (.int .i64 0) (.float .f64 0) (.string ⟨#[]⟩) (.slice none 0 0) (.slice A' nl c')) (.mk 5 0 0 ⟨#[]⟩ [] (cleans l)) [.int .i64 5,.int .i64 0,.float .f64 0,.string ⟨#[]⟩,.slice none 0 0,.slice A' nl c']):=by
   have hr:=RepGVs.frame (S':=(w.heap.size≤ ·)) hu ((zbY w1 (w.heap.size+1) (.int .i64 5) (.int .i64 0) (.float .f64 0) (.string ⟨#[]⟩) (.slice none 0 0) (.slice A' nl c')).mono fun b hb=>by omega) (fun b hb=>by omega)
   have:=RepGV.close (keys:=[]) (l:=cleans l) (kind:=5) (n:=0) (f:=0) (s:=⟨#[]⟩) (ka:=none) (kc:=0) (lc:=c') ⟨by omega,by omega,by omega,Nat.zero_le _,by simp,by simp,by rw[hll];omega⟩ (Nat.zero_le _) (by omega) RowOf.nil hr
   rw[hll] at this;exact this
  clear hu hE1 hE2
  have hz:∀o,w1.frozen? ⟨w.heap.size+1,o,none⟩=false:=fun o=>by simp [World.frozen?,HB1.out]
  have g0:=zh HB1.out (i:=0) rfl;have g1:=zh HB1.out (i:=1) rfl;have g2:=zh HB1.out (i:=2) rfl;have g3:=zh HB1.out (i:=3) rfl;have g4:=zh HB1.out (i:=4) rfl;have g5:=zh HB1.out (i:=5) rfl
  go_wp2
  (try simp only [Exit.inBlock,Exit.then]);refine bodyPost_ret (zi5 results23 rfl HQ.out) rfl ?_
  exact ⟨_,rfl,⟨_,rfl,by have:=HC.out;simp only [reduceIte,Int.reduceEq] at this;rw[this];exact HRq.out⟩,HEq.out⟩
 have hz:∀o,w2.frozen? ⟨w.heap.size+1,o,none⟩=false:=fun o=>by simp [World.frozen?,HB.out]
 have g0:=zh HB.out (i:=0) rfl;have g1:=zh HB.out (i:=1) rfl;have g2:=zh HB.out (i:=2) rfl;have g3:=zh HB.out (i:=3) rfl;have g4:=zh HB.out (i:=4) rfl;have g5:=zh HB.out (i:=5) rfl
 by_cases k1:kind=1
 ·subst k1
  by_cases n0:n=0
  ·subst n0
   go_wp2
   (try simp only [Exit.inBlock,Exit.then]);refine bodyPost_ret (zi5 results23 rfl (SN (.int .i64 1) (.int .i64 0) (.float .f64 0) (.string ⟨#[]⟩) (.slice none 0 0) (.slice none 0 0)).out.1) rfl ?_
   exact ⟨_,rfl,⟨_,rfl,by have:=HC.out;simp only [reduceIte,Int.reduceEq] at this;rw[this];exact zdC _ _ ⟨by omega,by omega,by omega,Nat.zero_le _,by simp,by simp,by simp⟩⟩,(SN _ _ _ _ _ _).out.2⟩
  ·have hnn:(n==0)=false:=by simp [n0]
   go_wp2
   (try simp only [Exit.inBlock,Exit.then]);refine bodyPost_ret (zi5 results23 rfl (SN (.int .i64 1) (.int .i64 1) (.float .f64 0) (.string ⟨#[]⟩) (.slice none 0 0) (.slice none 0 0)).out.1) rfl ?_
   exact ⟨_,rfl,⟨_,rfl,by have:=HC.out;simp only [reduceIte,Int.reduceEq,n0] at this;rw[this];exact zdC _ _ ⟨by omega,by omega,by omega,Nat.zero_le _,by simp,by simp,by simp⟩⟩,(SN _ _ _ _ _ _).out.2⟩
 by_cases k2:kind=2
 ·subst k2
  go_wp2
  (try simp only [Exit.inBlock,Exit.then]);refine bodyPost_ret (zi5 results23 rfl (SN (.int .i64 2) (.int .i64 n) (.float .f64 0) (.string ⟨#[]⟩) (.slice none 0 0) (.slice none 0 0)).out.1) rfl ?_
  exact ⟨_,rfl,⟨_,rfl,by have:=HC.out;simp only [reduceIte,Int.reduceEq] at this;rw[this];exact zdC _ _ ⟨by omega,by omega,by omega,Nat.zero_le _,by simp,by simp,by simp⟩⟩,(SN _ _ _ _ _ _).out.2⟩
 by_cases k3:kind=3
 ·subst k3
  go_wp2
  (try simp only [Exit.inBlock,Exit.then]);refine bodyPost_ret (zi5 results23 rfl (SN (.int .i64 3) (.int .i64 0) (.float .f64 f) (.string ⟨#[]⟩) (.slice none 0 0) (.slice none 0 0)).out.1) rfl ?_
  exact ⟨_,rfl,⟨_,rfl,by have:=HC.out;simp only [reduceIte,Int.reduceEq] at this;rw[this];exact zdC _ _ ⟨by omega,by omega,by omega,Nat.zero_le _,by simp,by simp,by simp⟩⟩,(SN _ _ _ _ _ _).out.2⟩
 by_cases k4:kind=4
 ·subst k4
  go_wp2
  (try simp only [Exit.inBlock,Exit.then]);refine bodyPost_ret (zi5 results23 rfl (SN (.int .i64 4) (.int .i64 0) (.float .f64 0) (.string s) (.slice none 0 0) (.slice none 0 0)).out.1) rfl ?_
  exact ⟨_,rfl,⟨_,rfl,by have:=HC.out;simp only [reduceIte,Int.reduceEq] at this;rw[this];exact zdC _ _ ⟨by omega,by omega,by omega,by omega,by simp,by simp,by simp⟩⟩,(SN _ _ _ _ _ _).out.2⟩
 have b1:(kind==1)=false:=by simp [k1]
 have b2:(kind==2)=false:=by simp [k2]
 have b3:(kind==3)=false:=by simp [k3]
 have b4:(kind==4)=false:=by simp [k4]
 have b5:(kind==5)=false:=by simp [k5]
 have b6:(kind==6)=false:=by simp [k6]
 go_wp2
 (try simp only [Exit.inBlock,Exit.then]);refine bodyPost_ret (zi5 results23 rfl (SN (.int .i64 0) (.int .i64 0) (.float .f64 0) (.string ⟨#[]⟩) (.slice none 0 0) (.slice none 0 0)).out.1) rfl ?_
 exact ⟨_,rfl,⟨_,rfl,by have:=HC.out;rw[if_neg k1,if_neg k2,if_neg k3,if_neg k4,if_neg k5,if_neg k6] at this;rw[this];exact zdC _ _ ⟨by omega,by omega,by omega,Nat.zero_le _,by simp,by simp,by simp⟩⟩,(SN _ _ _ _ _ _).out.2⟩
theorem zoi {n:Int}(h: -9223372036854775808≤n∧n≤9223372036854775807):z7 (.int .i64 n)=true:=by simp [z7,Z7,h]
theorem zrv {S:Nat→Prop}{w:World}{A:Option Addr}{c:Nat}{ss:List ByteArray}(h:RepStrs S w A ss)(hc:ss.length≤c)(hb:ss.length*16≤140737488351232)(hs:∀s∈ss,s.size≤140737488351232):
  RepD prog w S (ZS ss) (.slice A ss.length c):=by
 refine RepD.sl_iff.2 ⟨A,c,by simp [zag],by simpa [zag] using hc,by simpa [zag] using hb,fun j r hj=>?_⟩
 rw[zag,List.getElem?_map] at hj
 obtain ⟨s,hs',rfl⟩:=Option.map_eq_some_iff.1 hj
 refine ⟨by simp,fun _=>?_⟩
 obtain ⟨ad,cs,ha,hS,hr,_,hcs⟩:=h j s hs'
 cases hr
 refine ⟨ad,ha,fun i d hi=>?_⟩
 match i,hi with
 |0,hi=>
  simp at hi;subst hi
  exact ⟨_,by rw[zB];exact hS,by simpa using hcs 0 _ rfl,.v (by simpa [z7] using hs s (List.mem_of_getElem? hs'))⟩
theorem zjQ:∀{g:GV} {S:Nat→Prop} {w:World} {cs:List Value},RepGV S w g cs→All2 (RepD prog w S) (gvD g) cs:=by
 intro g
 induction g using GV.ind with
 |h kind n f s keys l IH=>
 intro S w cs h
 obtain ⟨ka,kc,la,lc,rfl,ok,hkc,hlc,hks,hls⟩:=h.open
 rw[zbx]
 refine .cons (.v (zoi ok.okKind)) (.cons (.v (zoi ok.okN)) (.cons (.v (by simpa [z7] using ok.okF)) (.cons (.v (by simpa [z7] using ok.okS)) (.cons (zrv hks hkc ok.okKeys ok.okEach) (.cons ?_ .nil)))))
 refine (RepD.sl_iff (E:=27) (xs:=l.map gvD)).2 ⟨la,lc,by simp,by simpa using hlc,by simpa using ok.okL,fun j r hj=>?_⟩
 rw[List.getElem?_map] at hj
 obtain ⟨x,hx,rfl⟩:=Option.map_eq_some_iff.1 hj
 refine ⟨by simp,fun _=>?_⟩
 obtain ⟨ad,cs,ha,hS,hr,_,hcs⟩:=hls j x hx
 have:=IH x (List.mem_of_getElem? hx) hr
 refine ⟨ad,ha,fun i d hi=>?_⟩
 obtain ⟨u,hu,hd⟩:=this.at hi
 exact ⟨u,by rw[zB];exact hS,by simpa using hcs i u hu,hd⟩
theorem zfX {S:Nat→Prop}{β:Nat→Value}{h:Nat→Option Ow}{w:World}{xs:List D}{us:List Value}:All2 (RepC prog S β h w) (cls xs) us↔All2 (RepD prog w S) xs us:=by
 constructor
 ·intro k
  induction xs generalizing us with
  |nil=>cases k;exact .nil
  |cons x xs ih=>cases k with|cons k t=>exact .cons k (ih t)
 ·intro k
  induction k with
  |nil=>exact .nil
  |cons k t ih=>exact .cons k ih
theorem zrw {S:Nat→Prop}{w:World}{ss:List ByteArray}{v:Value}(h:RepD prog w S (ZS ss) v):∃A c,v= .slice A ss.length c∧ss.length≤c∧ss.length*16≤140737488351232∧RepStrs S w A ss∧∀s∈ss,s.size≤140737488351232:=by
 have hk:=zkZ ⟨w,S,v,h⟩
 obtain ⟨A,c,rfl,hc,_,hr⟩:=RepD.sl_iff.1 h
 simp only [zag,List.length_map] at*
 refine ⟨A,c,rfl,hc,hk.1,fun j s hj=>?_,hk.2⟩
 obtain ⟨ad,ha,hrow⟩:=(hr j [dS s] (by simp [hj])).2 (by simp)
 obtain ⟨u,hS,hcell,hd⟩:=hrow 0 (dS s) rfl
 cases hd
 rw[zB] at hS
 refine ⟨ad,[.string s],ha,hS,rfl,rfl,fun i u hu=>?_⟩
 match i,hu with
 |0,hu=>simp at hu;subst hu;simpa using hcell
theorem zps:∀{g:GV} {S:Nat→Prop} {w:World} {cs:List Value},All2 (RepD prog w S) (gvD g) cs→RepGV S w g cs:=by
 intro g
 induction g using GV.ind with
 |h kind n f s keys l IH=>
 intro S w cs h
 have hok:=zof (kind:=kind) (n:=n) (f:=f) (s:=s) (keys:=keys) (l:=l) ⟨w,S,.agg cs.toArray,cs,rfl,zfX.2 h⟩
 rw[zbx] at h
 obtain ⟨c0,_,rfl,h0,h⟩:=h.inv
 obtain ⟨c1,_,rfl,h1,h⟩:=h.inv
 obtain ⟨c2,_,rfl,h2,h⟩:=h.inv
 obtain ⟨c3,_,rfl,h3,h⟩:=h.inv
 obtain ⟨c4,_,rfl,h4,h⟩:=h.inv
 obtain ⟨c5,_,rfl,h5,h⟩:=h.inv
 cases h.inv0
 cases h0;cases h1;cases h2;cases h3
 obtain ⟨ka,kc,rfl,hkc,_,hks,_⟩:=zrw h4
 obtain ⟨la,lc,rfl,hlc,_,hr⟩:=(RepD.sl_iff (E:=27) (xs:=l.map gvD)).1 h5
 rw[List.length_map] at hlc ⊢
 refine RepGV.close ⟨hok.hkind,hok.hn,hok.hf,hok.hs,hok.hkeys,hok.hkey,hok.hl⟩ hkc hlc hks fun j x hj=>?_
 obtain ⟨ad,ha,hrow⟩:=(hr j (gvD x) (by simp [hj])).2 (by simp)
 have key:∃us:List Value,All2 (RepD prog w S) (gvD x) us∧(∀i u,us[i]? =some u→w.cell? ((ad.add (j*6)).add i)=some u)∧S ad.block:=by
  refine ⟨(List.range 6).map fun i=>(w.cell? ((ad.add (j*6)).add i)).getD undef,All2.of (by simp) fun i d u hi hu=>?_,fun i u hu=>?_,?_⟩
  ·obtain ⟨u',_,hc,hd⟩:=hrow i d hi
   rw[List.getElem?_map] at hu
   obtain ⟨i',hi',rfl⟩:=Option.map_eq_some_iff.1 hu
   obtain ⟨hlt,rfl⟩:=List.getElem?_eq_some_iff.1 hi'
   simp only [zl5] at hc
   simp only [List.getElem_range,hc,Option.getD_some];exact hd
  ·rw[List.getElem?_map] at hu
   obtain ⟨i',hi',rfl⟩:=Option.map_eq_some_iff.1 hu
   obtain ⟨hlt,rfl⟩:=List.getElem?_eq_some_iff.1 hi'
   simp only [List.length_range] at hlt
   have hlt':i<(gvD x).length:=by rw[zia];exact hlt
   obtain ⟨u',_,hc,_⟩:=hrow i ((gvD x)[i]'hlt') (List.getElem?_eq_getElem hlt')
   simp only [zl5] at hc
   simp only [List.getElem_range,hc,Option.getD_some]
  ·have hlt':0<(gvD x).length:=by rw[zia];decide
   obtain ⟨u',hS,_,_⟩:=hrow 0 ((gvD x)[0]'hlt') (List.getElem?_eq_getElem hlt')
   rwa[zB] at hS
 obtain ⟨us,h1,h2,h3⟩:=key
 have:=IH x (List.mem_of_getElem? hj) h1
 exact ⟨ad,us,ha,h3,this,this.length,fun i u hu=>h2 i u hu⟩
theorem zhm {S:Nat→Prop}{β:Nat→Value}{h:Nat→Option Ow}{w:World}{g:GV}{v:Value}:RepA prog S β h w (gvA g) v↔∃cs,v= .agg (List.toArray cs)∧RepGV S w g cs:=
 ⟨fun ⟨us,h1,h2⟩=>⟨us,h1,zps (zfX.1 h2)⟩,fun ⟨us,h1,h2⟩=>⟨us,h1,zfX.2 (zjQ h2)⟩⟩
theorem zrx {f:FuncId}{args:List Av}(h:ACalls prog f args (fun r=>r=aV (.bool true))){W:World}{vs:List Value}(ha:All2 (RepA prog (fun _=>True) noB noH W) args vs):Calls prog f vs.toArray W (Makes (fun _ u=>u= .bool true) W):=by
 refine (h.2 W (· <W.heap.size) vs (fun _ h=>h) (ha.imp fun x v _ r=>r.imp r.noH fun d u k=>k.lt.mono fun b hb=>hb.2)).mono ?_
 rintro e w' ⟨v,r,rfl,rfl,hr,hE⟩
 obtain ⟨rfl,_⟩:=ZL hr
 exact ⟨_,rfl,rfl,hE⟩
theorem zfY (g:GV):ACalls prog 23 [gvA g] (fun r=>r=gvA (zL g)):=by
 refine ⟨⟨_,func23,by kernel_rfl,rfl⟩,fun w S vs hS ha=>?_⟩
 cases ha with
 |cons h t=>
 cases t
 obtain ⟨cs,rfl,hg⟩:=zhm.1 h
 refine (ztG g cs w S hg).mono ?_
 rintro e w' ⟨v,rfl,⟨cs',rfl,hr⟩,hE⟩
 exact ⟨_,_,rfl,rfl,zhm.2 ⟨cs',rfl,hr.mono fun b hb=>.inr hb⟩,hE⟩
mutual
def Za:GV→Bool
 | .mk kind n f _ _ l=>if kind=2 then decide (-9007199254740992≤n) && decide (n≤9007199254740992) else if kind=3 then FloatKind.f64.format.order f f==some .eq else if kind=5∨kind=6 then orderlys l else true
def orderlys:List GV→Bool
 | []=>true
 |x::l=>Za x && orderlys l
end
theorem zeE:∀l,orderlys l=l.all Za
 | []=>by simp [orderlys]
 |x::l=>by simp [orderlys,zeE l]
theorem zjR (g:GV):ACalls prog 64 [gvA g] (fun r=>r=aV (.bool (Za g))):=by
 induction g using GV.ind with
 |h kind n f s keys l IH=>
 refine zf [] func64 (by kernel_rfl) rfl ntmps64 results64 (Nat.le_of_ble_eq_true (by kernel_rfl)) ?_;intro hok w0 S0
 have hk:=zof (hok _ (List.mem_singleton_self _))
 have hl:=hk.hl
 have hl2:l.length≤9223372036854775807:=by omega
 simp only [gvA,zbx,zcC,zfQ]
 clear hok hk hl
 (repeat' (first|(with_reducible first|refine zj (fun _=>?_) (fun _=>?_)|refine zi (fun _=>?_) (fun _=>?_)|refine zk zb (by kernel_rfl) ?_|exact za rfl)|(simp -dsimp [hl2])));(all_goals try with_reducible refine za ?_)
 all_goals first
  |(simp_all [Za];done)
  |(simp_all [Za];omega)
  |skip
 all_goals
  have H:Za (.mk kind n f s keys l)=l.all Za:=by simp_all [Za,zeE]
  rw[H]
  clear H
  refine zF (fun i:Nat=>⟨[(28,.c (.d (zaD l))),(29,aV (.int .i64 l.length)),(30,aV (.int .i64 i))],[]⟩) (fun i=>i≤l.length∧∀(j:Nat) (h:j<l.length),j<i→Za l[j]=true) (fun i=>l.length - i) 0 ?_ ⟨Nat.zero_le _,fun j x h=>by omega⟩ ?_
  ·exact Weak.same (by simp -dsimp) (by simp -dsimp) (by first|rfl|(simp [zg,Av.ids,Ow.ids,Cl.ids,Go.Smd.keys];done))
  ·rintro i ⟨hi,hall⟩ K hK
   by_cases hlt:i<l.length
   ·have hw:IntKind.wrap .i64 ((i:Int)+1)=((i+1:Nat):Int):=by rw[zq]<;>omega
    (repeat' (first|(with_reducible first|refine zj (fun _=>?_) (fun _=>?_)|refine zi (fun _=>?_) (fun _=>?_)|refine zl (IH l[i] (List.getElem_mem hlt)) (by first|rfl|(simp -dsimp [hl2,hlt,hw];done)) ?_|refine zk zb (by kernel_rfl) ?_|exact za rfl)|(simp -dsimp [hl2,hlt,hw])));(all_goals try with_reducible refine za ?_)
    ·rename_i hn
     have:l.all Za=false:=List.all_eq_false.2 ⟨l[i],List.getElem_mem hlt,by simpa using hn⟩
     rw[this]
    ·rename_i hn
     refine hK _ (i+1) ?_ ⟨by omega,fun j h hj=>?_⟩ (by omega)
     ·exact Weak.same (by simp -dsimp) (by simp -dsimp) (by first|rfl|(simp [zg,Av.ids,Ow.ids,Cl.ids,Go.Smd.keys];done))
     ·by_cases e:j=i
      ·subst e;simpa using hn
      ·exact hall j h (by omega)
   ·(repeat' (first|(with_reducible first|refine zj (fun _=>?_) (fun _=>?_)|refine zi (fun _=>?_) (fun _=>?_)|refine zk zb (by kernel_rfl) ?_|exact za rfl)|(simp -dsimp [hl2,hlt])));(all_goals try with_reducible refine za ?_)
    have:l.all Za=true:=List.all_eq_true.2 fun x hx=>by
     obtain ⟨j,hj,rfl⟩:=List.getElem_of_mem hx
     exact hall j hj (by omega)
    rw[this]
abbrev aS (s:ByteArray):Av:=.c (.d (dS s))
abbrev aI (n:Int):Av:=.c (.d (dI n))
theorem ztH (g:GV):ACalls prog 129 [gvA g] (fun r=>r= .c (.d (.tr (Zb g)))):=by
 refine ⟨⟨_,func129,by kernel_rfl,rfl⟩,fun w S vs hS ha=>?_⟩
 cases ha with
 |cons h t=>
 cases t
 obtain ⟨cs,rfl,hg⟩:=zhm.1 h
 refine (zsJ g cs w S hg).mono ?_
 rintro e w' ⟨v,rfl,hr,hE⟩
 exact ⟨_,_,rfl,rfl,(RepD.tr hr).mono fun b hb=>.inr hb,hE⟩
theorem ztI (t:Tree):ACalls prog 128 [.c (.d (.tr t))] (fun r=>r= .c (.d (dV t))):=by
 refine zf [] func128 (by kernel_rfl) rfl ntmps128 results128 (Nat.le_of_ble_eq_true (by kernel_rfl)) ?_;intro hok w0 S0
 (repeat' (first|(with_reducible first|refine zj (fun _=>?_) (fun _=>?_)|refine zi (fun _=>?_) (fun _=>?_))|((with_reducible apply zc6 [] (f:=181));(case hc=>simp -dsimp;first|exact ⟨rfl,rfl⟩|exact ⟨rfl,rfl,rfl⟩);(case hf=>exact func181);(case hA=>simp -dsimp<;>with_reducible rfl);(case hok=>simp -dsimp);(case hY=>simp -dsimp<;>with_reducible rfl);(case hO=>simp -dsimp<;>with_reducible rfl);(case hn=>kernel_rfl);(case hb=>rfl);(case hN=>exact ntmps181);(case hrs=>exact results181);(case hl=>exact Nat.le_of_ble_eq_true (by kernel_rfl));intro hok w0 S0)|((with_reducible apply zcH (ρ:=[(1000000000,6004)]) 7 (zfT (.tr t) (.v .nilIface)));(case hc=>simp -dsimp<;>first|exact ⟨rfl,rfl,rfl⟩|exact ⟨rfl,rfl⟩|done);(case hx=>simp -dsimp<;>with_reducible rfl);(case ho=>simp -dsimp);(case hh=>simp -dsimp);(case hb=>simp -dsimp))|(with_reducible first|refine zk zb (by kernel_rfl) ?_|exact za rfl)|(simp -dsimp)));(all_goals try with_reducible refine za ?_)
theorem zjS (g:GV):ACalls prog 71 [gvA g] (fun r=>r= .c (.d (dV (Zb g)))):=by
 refine zf [] func71 (by kernel_rfl) rfl ntmps71 results71 (Nat.le_of_ble_eq_true (by kernel_rfl)) ?_;intro hok w0 S0
 (repeat' (first|(with_reducible first|refine zj (fun _=>?_) (fun _=>?_)|refine zi (fun _=>?_) (fun _=>?_)|refine zl (ztH _) (by first|rfl|(simp -dsimp;done)) ?_|refine zl (ztI _) (by first|rfl|(simp -dsimp;done)) ?_|refine zk zb (by kernel_rfl) ?_|exact za rfl)|(simp -dsimp)));(all_goals try with_reducible refine za ?_)
noncomputable def znr (x y:Tree):Int:=zk6 (dep x) x y
theorem zfr (x y:Tree)(hx:zaM x)(hy:zaM y):ACalls prog 200 [.c (.d (dV x)),.c (.d (dV y))] (fun r=>r=aV (.int .i64 (znr x y))):=by
 refine zf [] func200 (by kernel_rfl) rfl ntmps200 results200 (Nat.le_of_ble_eq_true (by kernel_rfl)) ?_;intro hok w0 S0
 (repeat' (first|(with_reducible first|refine zj (fun _=>?_) (fun _=>?_)|refine zi (fun _=>?_) (fun _=>?_)|refine zl (zgw (dep x) x y (Nat.le_refl _) hx hy) (by first|rfl|(simp -dsimp;done)) ?_|refine zk zb (by kernel_rfl) ?_|exact za rfl)|(simp -dsimp)));(all_goals try with_reducible refine za ?_)
theorem zoj {g:GV}(h:okA prog (gvA g)):zaM (Zb g):=by
 obtain ⟨w,S,v,hr⟩:=h
 obtain ⟨cs,_,hg⟩:=zhm.1 hr
 exact zpr hg
theorem Tree.ind {P:Tree→Prop}(hn:P .nil)(hb:∀b,P (.bool b))(hi:∀n,P (.int n))(hf:∀f,P (.float f))(hs:∀s,P (.str s))(hl:∀l,(∀x∈l,P x)→P (.list l))(hm:∀m,(∀p∈m,P p.2)→P (.map m)):∀t,P t
 | .nil=>hn
 | .bool b=>hb b
 | .int n=>hi n
 | .float f=>hf f
 | .str s=>hs s
 | .list l=>hl l fun x _hx=>Tree.ind hn hb hi hf hs hl hm x
 | .map m=>hm m fun p _hp=>Tree.ind hn hb hi hf hs hl hm p.2
termination_by t=>SizeOf.sizeOf t
decreasing_by
 ·have:=List.sizeOf_lt_of_mem _hx
  simp;omega
 ·have h1:=List.sizeOf_lt_of_mem _hp
  have h2:SizeOf.sizeOf p.2<SizeOf.sizeOf p:=by cases p;simp;omega
  simp;omega
mutual
def Zs:Tree→GV
 | .nil=>.mk 0 0 0 ⟨#[]⟩ [] []
 | .bool b=>.mk 1 (if b then 1 else 0) 0 ⟨#[]⟩ [] []
 | .int n=>.mk 2 n 0 ⟨#[]⟩ [] []
 | .float f=>.mk 3 0 f ⟨#[]⟩ [] []
 | .str s=>.mk 4 0 0 s [] []
 | .list l=>.mk 5 0 0 ⟨#[]⟩ [] (fromTs l)
 | .map m=>zc7 (fromMs m)
def fromTs:List Tree→List GV
 | []=>[]
 |x::l=>Zs x::fromTs l
def fromMs:List (ByteArray×Tree)→List (ByteArray×GV)
 | []=>[]
 |p::m=>zaq p.1 (Zs p.2) (fromMs m)
end
theorem zgx:∀l,fromTs l=l.map Zs
 | []=>by simp [fromTs]
 |x::l=>by simp [fromTs,zgx l]
theorem zaf:∀m,Z0 (fromMs m)
 | []=>by simp [fromMs,Z0]
 |p::m=>by simp only [fromMs];exact Zj (zaf m)
theorem zfs {k:ByteArray}{v:GV}:∀{m:List (ByteArray×Tree)},(k,v)∈fromMs m→∃t,(k,t)∈m∧v=Zs t
 | [],h=>by simp [fromMs] at h
 |p::m,h=>by
  simp only [fromMs] at h
  rcases zh5 h with h|h
  ·cases h;exact ⟨p.2,List.mem_cons_self ..,rfl⟩
  ·obtain ⟨t,h1,h2⟩:=zfs h
   exact ⟨t,List.mem_cons_of_mem _ h1,h2⟩
theorem zby (q:ByteArray):∀m:List (ByteArray×Tree),q∈(fromMs m).map (·.1)↔q∈m.map (·.1)
 | []=>by simp [fromMs]
 |p::m=>by
  simp only [fromMs]
  have h:∀(k:ByteArray) (v:GV) (l:List (ByteArray×GV)),q∈(zaq k v l).map (·.1)↔q=k∨q∈l.map (·.1):=fun k v l=>by
   induction l with
   |nil=>simp [zaq]
   |cons y l ih=>
    simp only [zaq]
    split
    ·simp only [List.map_cons,List.mem_cons,ih]
     constructor<;>rintro (h|h|h)<;>simp [h]
    ·split
     ·next h=>simp [h]
     ·simp
  rw[h,zby q m];simp
theorem zae {k:ByteArray}{v:GV}{p:ByteArray×GV}:∀{m:List (ByteArray×GV)},Z0 m→(p∈zaq k v m↔p=(k,v)∨(p∈m∧p.1≠k))
 | [],_=>by simp [zaq]
 |q::m,hs=>by
  have hs':=hs
  simp only [Z0,List.map_cons,List.pairwise_cons] at hs
  have hq:∀x∈m,blt q.1 x.1=true:=fun x hx=>hs.1 x.1 (List.mem_map_of_mem hx)
  simp only [zaq]
  split
  ·next hb=>
   rw[List.mem_cons,zae hs.2,List.mem_cons]
   constructor
   ·rintro (h|h|h)
    ·subst h;exact .inr ⟨.inl rfl,zm4 hb⟩
    ·exact .inl h
    ·exact .inr ⟨.inr h.1,h.2⟩
   ·rintro (h|⟨h|h,h2⟩)
    ·exact .inr (.inl h)
    ·exact .inl h
    ·exact .inr (.inr ⟨h,h2⟩)
  ·next hb=>
   split
   ·next he=>
    rw[List.mem_cons,List.mem_cons]
    constructor
    ·rintro (h|h)
     ·exact .inl h
     ·exact .inr ⟨.inr h,fun e=>zm4 (hq p h) (he.trans e.symm)⟩
    ·rintro (h|⟨h|h,h2⟩)
     ·exact .inl h
     ·subst h;exact absurd he h2
     ·exact .inr h
   ·next he=>
    have hk:blt k q.1=true:=by
     rcases zeX q.1 k with h'|h'|h'
     ·exact absurd h' hb
     ·exact absurd h' he
     ·exact h'
    rw[List.mem_cons]
    constructor
    ·rintro (h|h)
     ·exact .inl h
     ·refine .inr ⟨h,fun e=>?_⟩
      rcases List.mem_cons.1 h with rfl|h
      ·exact he e
      ·have:=Zv hk (hq p h);rw[e,zP] at this;cases this
    ·rintro (h|⟨h,_⟩)
     ·exact .inl h
     ·exact .inr h
theorem zft:∀{a b:List (ByteArray×GV)},Z0 a→Z0 b→(∀p,p∈a↔p∈b)→a=b
 | [],[],_,_,_=>rfl
 | [],y::b,_,_,h=>by have:=(h y).2 (List.mem_cons_self ..);cases this
 |x::a,[],_,_,h=>by have:=(h x).1 (List.mem_cons_self ..);cases this
 |x::a,y::b,ha,hb,h=>by
  simp only [Z0,List.map_cons,List.pairwise_cons] at ha hb
  have hx1:∀p∈a,blt x.1 p.1=true:=fun p hp=>ha.1 p.1 (List.mem_map_of_mem hp)
  have hy1:∀p∈b,blt y.1 p.1=true:=fun p hp=>hb.1 p.1 (List.mem_map_of_mem hp)
  have hxy:x=y:=by
   rcases List.mem_cons.1 ((h x).1 (List.mem_cons_self ..)) with e|hx
   ·exact e
   ·rcases List.mem_cons.1 ((h y).2 (List.mem_cons_self ..)) with e|hy
    ·exact e.symm
    ·have h1:=hy1 x hx
     have h2:=hx1 y hy
     rw[zjI h1] at h2;cases h2
  subst hxy
  rw[zft ha.2 hb.2 fun p=>?_]
  constructor
  ·intro hp
   rcases List.mem_cons.1 ((h p).1 (List.mem_cons_of_mem _ hp)) with rfl|h'
   ·have:=hx1 p hp;rw[zP] at this;cases this
   ·exact h'
  ·intro hp
   rcases List.mem_cons.1 ((h p).2 (List.mem_cons_of_mem _ hp)) with rfl|h'
   ·have:=hy1 p hp;rw[zP] at this;cases this
   ·exact h'
theorem zns {k:ByteArray}{a b:GV}{m:List (ByteArray×GV)}(hs:Z0 m):zaq k a (zaq k b m)=zaq k a m:=by
 refine zft (Zj (Zj hs)) (Zj hs) fun p=>?_
 rw[zae (Zj hs),zae hs,zae hs]
 constructor
 ·rintro (h|⟨h|h,h2⟩)
  ·exact .inl h
  ·subst h;exact absurd rfl h2
  ·exact .inr h
 ·rintro (h|h)
  ·exact .inl h
  ·exact .inr ⟨.inr h,h.2⟩
theorem zpt {k q:ByteArray}(hkq:k≠q){a b:GV}{m:List (ByteArray×GV)}(hs:Z0 m):zaq k a (zaq q b m)=zaq q b (zaq k a m):=by
 refine zft (Zj (Zj hs)) (Zj (Zj hs)) fun p=>?_
 rw[zae (Zj hs),zae hs,zae (Zj hs),zae hs]
 constructor
 ·rintro (h|⟨h|h,h2⟩)
  ·exact .inr ⟨.inl h,by rw[h];exact hkq⟩
  ·exact .inl h
  ·exact .inr ⟨.inr ⟨h.1,h2⟩,h.2⟩
 ·rintro (h|⟨h|h,h2⟩)
  ·exact .inr ⟨.inl h,by rw[h];exact hkq.symm⟩
  ·exact .inl h
  ·exact .inr ⟨.inr ⟨h.1,h2⟩,h.2⟩
theorem zio (k:ByteArray)(t:Tree):∀m:zaR,fromMs (ins k t m)=zaq k (Zs t) (fromMs m)
 | []=>by simp [ins,fromMs]
 |p::m=>by
  simp only [ins]
  split
  ·next h=>simp only [fromMs,h];exact (zns (zaf m)).symm
  ·next h=>
   simp only [fromMs]
   rw[zio k t m,zpt h (zaf m)]
theorem ziq:∀(ks:List ByteArray) (l:List GV) (m:zaR),(∀x∈l,Zs (Zb x)=zL x)→fromMs (ZE ks (treesOf l) m)=z8 ks (cleans l) (fromMs m)
 | [],l,m,_=>by cases l<;>simp [ZE,treesOf,cleans,z8]
 |k::ks,[],m,_=>by simp [ZE,treesOf,cleans,z8]
 |k::ks,x::l,m,h=>by
  simp only [treesOf,cleans,ZE,z8]
  rw[ziq ks l _ fun y hy=>h y (List.mem_cons_of_mem _ hy),zio,h x (List.mem_cons_self ..)]
theorem zjT (v:GV):Zs (Zb v)=zL v:=by
 induction v using GV.ind with
 |h kind n f s keys l IH=>
 simp only [Zb,zL]
 repeat' split
 all_goals (try simp only [Zs])
 all_goals (try rfl)
 ·next h=>subst h;simp
 ·next h=>simp [h]
 ·have:fromTs (treesOf l)=cleans l:=by
   rw[zgx,zaA,zau,List.map_map]
   exact List.map_congr_left fun x hx=>IH x hx
  rw[this]
 ·rw[ziq keys l [] IH];rfl
theorem zgW:∀{fs m:List (ByteArray×GV)},Z0 fs→(∀p∈fs,zL p.2=p.2)→Z0 m→(∀p∈m,∀q∈fs,blt p.1 q.1=true)→z8 (fs.map (·.1)) (cleans (fs.map (·.2))) m=m++fs
 | [],m,_,_,_,_=>by simp [z8]
 |q::fs,m,hs,hc,hm,hlt=>by
  simp only [List.map_cons,cleans,z8]
  have hq:zL q.2=q.2:=hc q (List.mem_cons_self ..)
  rw[hq]
  have hs':=hs
  simp only [Z0,List.map_cons,List.pairwise_cons] at hs
  have e:zaq q.1 q.2 m=m++ [q]:=by
   have:∀m:List (ByteArray×GV),(∀p∈m,blt p.1 q.1=true)→zaq q.1 q.2 m=m++ [q]:=by
    intro m
    induction m with
    |nil=>intro _;simp [zaq]
    |cons p m ih=>
     intro h
     simp only [zaq,h p (List.mem_cons_self ..),if_true,List.cons_append]
     rw[ih fun x hx=>h x (List.mem_cons_of_mem _ hx)]
   exact this m fun p hp=>hlt p hp q (List.mem_cons_self ..)
  rw[e,zgW hs.2 (fun p hp=>hc p (List.mem_cons_of_mem _ hp)) (e▸Zj hm) fun p hp x hx=>?_]
  ·simp
  ·rcases List.mem_append.1 hp with hp|hp
   ·exact hlt p hp x (List.mem_cons_of_mem _ hx)
   ·simp at hp;subst hp;exact hs.1 x.1 (List.mem_map_of_mem hx)
theorem zeF:∀(ks:List ByteArray) (l:List GV) (m:List (ByteArray×GV)) (Q:GV→Prop),(∀x∈l,Q x)→(∀p∈m,Q p.2)→Z0 m→∀p∈z8 ks l m,Q p.2
 | [],l,m,Q,_,hm,_,p,hp=>by cases l<;>exact hm p (by simpa [z8] using hp)
 |k::ks,[],m,Q,_,hm,_,p,hp=>hm p (by simpa [z8] using hp)
 |k::ks,x::l,m,Q,hl,hm,hs,p,hp=>by
  simp only [z8] at hp
  refine zeF ks l _ Q (fun y hy=>hl y (List.mem_cons_of_mem _ hy)) (fun q hq=>?_) (Zj hs) p hp
  rcases (zae hs).1 hq with rfl|⟨hq,_⟩
  ·exact hl x (List.mem_cons_self ..)
  ·exact hm q hq
theorem zir (v:GV):zL (zL v)=zL v:=by
 induction v using GV.ind with
 |h kind n f s keys l IH=>
 have hl:∀x∈cleans l,zL x=x:=fun x hx=>by
  rw[zau] at hx
  obtain ⟨y,hy,rfl⟩:=List.mem_map.1 hx
  exact IH y hy
 have hcl:cleans (cleans l)=cleans l:=by
  rw[zau (cleans l)]
  exact (List.map_congr_left hl).trans (List.map_id' _)
 simp only [zL]
 repeat' split
 all_goals (try (simp [zL];done))
 ·simp [zL,hcl]
 ·have hs:=zdp keys (cleans l) [] .nil
  have hv:=zeF keys (cleans l) [] (fun x=>zL x=x) hl (by simp) .nil
  have:=zgW (m:=[]) hs hv .nil (by simp)
  simp only [List.nil_append] at this
  simp [zc7,zL,this]
end Go.Smd
end
