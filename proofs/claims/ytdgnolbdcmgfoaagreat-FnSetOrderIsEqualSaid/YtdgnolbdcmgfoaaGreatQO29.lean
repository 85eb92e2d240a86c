/- Part 29 of the proof: Jd Je Jf. -/
import Derived.Test.YtdgnolbdcmgfoaaGreatQO28
import Derived.Test.YtdgnolbdcmgfoaaGreatQO09
set_option linter.unusedVariables false
set_option linter.unusedSimpArgs false
set_option maxRecDepth 100000
set_option maxHeartbeats 8000000
section
namespace Go.Smd
open Go.RowKit Go.Proofs Go.Proofs.Tryz
theorem znS (T:TypeId)(u:Nat)(R:List (List D)){ms:List EV}{e:EV}(hm:∀x∈ms,GoodE x)(hs:zde ms)(he:GoodE e)(hl:(ms.length+1)*32≤140737488351232):
  AProc prog 171 [.c (.own 1000000000 0),leA (z9 e)] [(1000000000,.cells [.gs 1000000001 0,.gs 1000000002 u] T),(1000000001,.arr 0 101 (ms.map eD)),(1000000002,.arr u tSN R)]
   (fun r own'=>r= .tup []∧∃ver',ze own' 1000000000=some (.cells [.gs 1000000001 ver',.gs 1000000002 u] T)∧ze own' 1000000001=some (.arr ver' 101 ((zci e ms).map eD))∧ze own' 1000000002=some (.arr u tSN R)):=by
 have hB:=zoD hs hm he
 have hA:=zr1 hm he
 have hF:∀x∈ms.map z9,zas x:=fun x hx=>by obtain ⟨y,hy,rfl⟩:=List.mem_map.1 hx;exact (hm y hy).f.le
 have hmm:∀l:List EV,l.map eD=(l.map z9).map leD:=fun l=>by rw[List.map_map];rfl
 by_cases hf:zgT e ms
 ·have hi:=znQ T 0 u R _ (z9 e) _ (by simp;omega) hF he.f.le hB (hA.2 hf)
  rw[zfR _ _ hf,hmm]
  refine hi.mono fun r own' ⟨h1,h2⟩=>⟨h1,0,?_⟩
  subst h2
  exact ⟨rfl,rfl,rfl⟩
 ·have hi:=znR T 0 u R _ (z9 e) _ (by simp;omega) hF he.f.le hB (fun h=>hf (hA.1 h))
  rw[ziT _ _ hf,hmm,hmm,zgV]
  refine hi.mono fun r own' ⟨h1,h2⟩=>⟨h1,1,?_⟩
  subst h2
  exact ⟨rfl,rfl,rfl⟩
def zct (P:Program)(S:Nat→Prop)(w:World)(b:Nat)(F:List Nat)(t':ST)(w':World):Prop:=
 ∃(F':List Nat) (S':Nat→Prop),HasS P S' w' t' b F'∧(∀x,S x→S' x)∧(∀x,S' x→S x∨x∈F∨w.heap.size≤x)∧(∀x,S' x→x<w'.heap.size∧x∉F')∧(∀x∈F',x∈F∨w.heap.size≤x)∧GrownX (· ∈F) w w'
theorem zoI {α:Type}{a b c i:Nat}{x y z o:α}(h:ze [(a,x),(b,y),(c,z)] i=some o):(i=a∧o=x)∨(i=b∧o=y)∨(i=c∧o=z):=by
 simp only [ze] at h
 split at h
 ·next e=>cases h;exact .inl ⟨e.symm,rfl⟩
 ·split at h
  ·next e=>cases h;exact .inr (.inl ⟨e.symm,rfl⟩)
  ·split at h
   ·next e=>cases h;exact .inr (.inr ⟨e.symm,rfl⟩)
   ·cases h
theorem zcJ {v:Value}(h:∃A n c,v= .slice A n c)(x:Nat):bk v=some x↔v.ownBlock=some x:=by
 obtain ⟨A,n,c,rfl⟩:=h
 rfl
theorem zmF {S:Nat→Prop}{w:World}{ms:List EV}{ks:PK}{b:Nat}{F:List Nat}{N:Nat}(h:HasS prog S w (stP (.mk ms ks)) b F)(hS:∀x,S x→x<w.heap.size∧x∉F)(ok:OkS N (.mk ms ks))(hN:(N+1)*40≤140737488351232)
  (e:EV) (he:GoodE e) (u:Value) (hu:RepA prog S noB noH w (leA (z9 e)) u):
  Calls prog 171 #[.pointer (some ⟨b,0,none⟩),u] w fun en w'=>en= .returned (.tuple #[])∧zct prog S w b F (stP (.mk (zci e ms) ks)) w':=by
 simp only [stP,HasS] at h
 obtain ⟨vm,vc,T,bs,G,h1,h2,h3,h4,rfl,h5,h6,h7⟩:=h
 simp only [OkS] at ok
 have hbw:b<w.heap.size:=(Array.getElem?_eq_some_iff.1 h1).1
 have hc:=znS T 0 (zaP (skP ks) bs) ok.1 ok.2.1 he (by omega)
 obtain ⟨A0,c0,hvm⟩:=h2.slice
 obtain ⟨A1,c1,hvc⟩:=h3.slice
 have svm:∃A n c,vm= .slice A n c:=⟨_,_,_,hvm⟩
 have svc:∃A n c,vc= .slice A n c:=⟨_,_,_,hvc⟩
 clear hvm hvc
 rw[List.nodup_cons,List.nodup_append] at h5
 obtain ⟨n1,_,h5,n2⟩:=h5
 rw[List.nodup_append] at h5
 obtain ⟨_,nG,n3⟩:=h5
 simp only [List.mem_append,Option.mem_toList,not_or] at n1 n2 n3
 have dmc:∀x,vm.ownBlock=some x→vc.ownBlock≠some x:=fun x k1 k2=>n2 x k1 x (.inl k2) rfl
 have dmG:∀x,vm.ownBlock=some x→x∉G:=fun x k1 k2=>n2 x k1 x (.inr k2) rfl
 have dcG:∀x,vc.ownBlock=some x→x∉G:=fun x k1 k2=>n3 x k1 x k2 rfl
 have hGw:∀x∈G,x<w.heap.size:=HasK.blocks _ h4
 obtain ⟨own,hown⟩:∃own:List (Nat×Ow),own= [(1000000000,.cells [.gs 1000000001 0,.gs 1000000002 0] T),(1000000001,.arr 0 101 (ms.map eD)),(1000000002,.arr 0 tSN (zaP (skP ks) bs))]:=⟨_,rfl⟩
 obtain ⟨β,hβ⟩:∃β:Nat→Value,β=fun i=>if i=1000000000 then .pointer (some ⟨b,0,none⟩) else if i=1000000001 then vm else vc:=⟨_,rfl⟩
 have b0:β 1000000000= .pointer (some ⟨b,0,none⟩):=by rw[hβ];rfl
 have b1:β 1000000001=vm:=by rw[hβ];rfl
 have b2:β 1000000002=vc:=by rw[hβ];rfl
 obtain ⟨K,hK⟩:∃K:Nat→Prop,K=fun x=>x<w.heap.size∧x≠b∧vm.ownBlock≠some x∧vc.ownBlock≠some x:=⟨_,rfl⟩
 have hKi:∀x,K x↔x<w.heap.size∧x≠b∧vm.ownBlock≠some x∧vc.ownBlock≠some x:=fun x=>by rw[hK]
 have hKn:∀x,¬K x→x=b∨vm.ownBlock=some x∨vc.ownBlock=some x∨w.heap.size≤x:=fun x hx=>by
  rw[hKi] at hx
  by_cases k1:x=b
  ·exact .inl k1
  ·by_cases k2:vm.ownBlock=some x
   ·exact .inr (.inl k2)
   ·by_cases k3:vc.ownBlock=some x
    ·exact .inr (.inr (.inl k3))
    ·exact .inr (.inr (.inr (Nat.le_of_not_lt fun k4=>hx ⟨k4,k1,k2,k3⟩)))
 have hGK:∀x∈G,K x:=fun x hx=>(hKi x).2 ⟨hGw x hx,fun e=>n1.2.2 (e▸hx),fun e=>dmG x e hx,fun e=>dcG x e hx⟩
 have hSK:∀x,S x→K x:=fun x hx=>by
  have:=(hS x hx).2
  simp only [List.mem_cons,List.mem_append,Option.mem_toList,not_or] at this
  exact (hKi x).2 ⟨(hS x hx).1,this.1,this.2.1,this.2.2.1⟩
 have hocc:∀i o x,ze own i=some o→occ (β i) o x→x=b∧i=1000000000∨vm.ownBlock=some x∧i=1000000001∨vc.ownBlock=some x∧i=1000000002:=fun i o x hi ho=>by
  rw[hown] at hi
  rcases zoI hi with ⟨rfl,rfl⟩|⟨rfl,rfl⟩|⟨rfl,rfl⟩
  ·rw[b0,ZU] at ho;simp [bk] at ho;exact .inl ⟨ho.symm,rfl⟩
  ·rw[b1,zac,zcJ svm] at ho;exact .inr (.inl ⟨ho,rfl⟩)
  ·rw[b2,zac,zcJ svc] at ho;exact .inr (.inr ⟨ho,rfl⟩)
 have hSd:∀x,S x→Sd w ⟨S,K,ze own,β⟩ β (ze own) w x:=fun x hx=>⟨.inl hx,(hS x hx).1,fun i o hi ho=>by
  obtain ⟨_,k1,k2,k3⟩:=(hKi x).1 (hSK x hx)
  rcases hocc i o x hi ho with h|h|h
  ·exact k1 h.1
  ·exact k2 h.1
  ·exact k3 h.1⟩
 have s:Sim prog 0 w ⟨S,K,ze own,β⟩ β ⟨[],own⟩ zhV w:=by
  refine ⟨KExt.refl _ _,fun x hx=>((hKi x).1 hx).1,fun i o0 h0=>⟨?_,fun o ho=>?_⟩,fun i j oi oj x hi hj ki kj=>?_,fun i o x hi ki=>?_,fun i o hi=>?_,fun t=>trivial,rfl,fun d hd=>by simp [zhV] at hd⟩
  ·have h0:ze own i=some o0:=h0
   rw[hown] at h0
   unfold zed
   rcases zoI h0 with ⟨rfl,_⟩|⟨rfl,_⟩|⟨rfl,_⟩<;>omega
  ·have ho:ze own i=some o:=ho
   have h0:ze own i=some o0:=h0
   rw[h0] at ho;cases ho
   rw[hown] at h0
   rcases zoI h0 with ⟨rfl,rfl⟩|⟨rfl,rfl⟩|⟨rfl,rfl⟩
   ·exact rfl
   ·exact ⟨Nat.le_refl _,fun _=>rfl⟩
   ·exact ⟨Nat.le_refl _,fun _=>rfl⟩
  ·rcases hocc i oi x hi ki with ⟨p1,q1⟩|⟨p1,q1⟩|⟨p1,q1⟩<;>rcases hocc j oj x hj kj with ⟨p2,q2⟩|⟨p2,q2⟩|⟨p2,q2⟩<;>first|(rw[q1,q2];done)|exfalso
   ·subst p1;exact n1.1 p2
   ·subst p1;exact n1.2.1 p2
   ·subst p2;exact n1.1 p1
   ·exact dmc x p1 p2
   ·subst p2;exact n1.2.1 p1
   ·exact dmc x p2 p1
  ·have hn:¬K x∧x<w.heap.size:=by
    rcases hocc i o x hi ki with ⟨p1,_⟩|⟨p1,_⟩|⟨p1,_⟩
    ·exact ⟨fun hk=>((hKi x).1 hk).2.1 p1,by rw[p1];exact hbw⟩
    ·exact ⟨fun hk=>((hKi x).1 hk).2.2.1 p1,h2.row_lt p1⟩
    ·exact ⟨fun hk=>((hKi x).1 hk).2.2.2 p1,h3.row_lt p1⟩
   exact hn
  ·have hi:ze own i=some o:=hi
   have hi':=hi
   rw[hown] at hi
   have q1:ze own 1000000001=some (.arr 0 101 (ms.map eD)):=by rw[hown];rfl
   have q2:ze own 1000000002=some (.arr 0 tSN (zaP (skP ks) bs)):=by rw[hown];rfl
   rcases zoI hi with ⟨rfl,rfl⟩|⟨rfl,rfl⟩|⟨rfl,rfl⟩
   ·refine ⟨b,[vm,vc],b0,h1,.cons ⟨0,_,_,q1,Nat.le_refl _,fun _=>b1.symm,?_⟩ (.cons ⟨0,_,_,q2,Nat.le_refl _,fun _=>b2.symm,?_⟩ .nil)⟩
    ·obtain ⟨A,n,c,rfl⟩:=svm;rfl
    ·obtain ⟨A,n,c,rfl⟩:=svc;rfl
   ·rw[b1]
    exact ⟨(h2.any fun _ _=>trivial).frame (zu _) (fun _ _=>rfl) (fun _ _=>rfl) (fun _ h=>h) hSd,h6.1,h6.2⟩
   ·rw[b2]
    exact ⟨(h3.any fun _ _=>trivial).frame (zu _) (fun _ _=>rfl) (fun _ _=>rfl) (fun _ h=>h) hSd,h7.1,h7.2⟩
 have hu':RepA prog (Sd w ⟨S,K,ze own,β⟩ β (ze own) w) β (ze own) w (leA (z9 e)) u:=by
  obtain ⟨us,hq,ha⟩:=hu
  refine ⟨us,hq,ha.imp fun x y hx k=>?_⟩
  obtain ⟨d,_,rfl⟩:=List.mem_map.1 hx
  exact RepD.mono (show RepD _ w S d y from k) hSd
 have hz0:RepA prog (Sd w ⟨S,K,ze own,β⟩ β (ze own) w) β (ze own) w (.c (.own 1000000000 0)) (.pointer (some ⟨b,0,none⟩)):=⟨_,_,b,by rw[hown];rfl,b0,rfl⟩
 rw[hown] at s hu' hz0
 refine (hc.2 w ⟨S,K,ze own,β⟩ β [_,u] (by rw[hown];exact s) (.cons (by rw[hown];exact hz0) (.cons (by rw[hown];exact hu') .nil))).mono ?_
 rintro en w' ⟨v,r,β',own',rfl,⟨rfl,ver',g0,g1,g2⟩,s',hv⟩
 have hv2:v= .tuple #[]:=by obtain ⟨us,hq,ha⟩:=hv;cases ha.inv0;exact hq
 refine ⟨by rw[hv2],?_⟩
 have k0:β' 1000000000= .pointer (some ⟨b,0,none⟩):=by
  have:=(s'.kept 1000000000 (.cells [.gs 1000000001 0,.gs 1000000002 0] T) (by show ze own _=_;rw[hown];rfl)).2 _ g0
  rw[←b0];exact this
 have k2:β' 1000000002=vc:=by
  have:=((s'.kept 1000000002 (.arr 0 tSN (zaP (skP ks) bs)) (by show ze own _=_;rw[hown];rfl)).2 _ g2).2 rfl
  rw[←b2];exact this
 obtain ⟨b',us,e0,hh,ha⟩:=s'.own 1000000000 _ g0
 rw[k0] at e0
 cases e0
 obtain ⟨m1,us1,rfl,⟨_,_,_,l1,_,l2,_⟩,ha⟩:=ha.inv
 obtain ⟨m2,us2,rfl,⟨_,_,_,l3,_,l4,_⟩,ha⟩:=ha.inv
 cases ha.inv0
 have l1:=g1.symm.trans l1;cases l1
 have l3:=g2.symm.trans l3;cases l3
 have l2:=l2 rfl
 have l4:=(l4 rfl).trans k2
 subst l2;subst l4
 obtain ⟨r1,r2,r3⟩:=s'.own 1000000001 _ g1
 obtain ⟨r4,r5,r6⟩:=s'.own 1000000002 _ g2
 rw[k2] at r4
 have svm':∃A n c,β' 1000000001= .slice A n c:=by obtain ⟨A,c,hs⟩:=r1.slice;exact ⟨_,_,_,hs⟩
 have newm:∀x,(β' 1000000001).ownBlock=some x→¬K x∧x<w'.heap.size:=fun x hx=>s'.new 1000000001 _ x g1 (zac.2 ((zcJ svm' x).2 hx))
 have hsz:=s'.ext.size
 have blk:∀x,K x→w'.heap[x]? =w.heap[x]? :=fun x hx=>s'.ext.block x hx
 have hS':∀x,S x→Sd w ⟨S,K,ze own,β⟩ β' (ze own') w' x:=fun x hx=>⟨.inl hx,Nat.lt_of_lt_of_le (hS x hx).1 hsz,fun i o hi ho=>(s'.new i o x hi ho).1 (hSK x hx)⟩
 refine ⟨b::((β' 1000000001).ownBlock.toList++(m2.ownBlock.toList++G)),Sd w ⟨S,K,ze own,β⟩ β' (ze own') w',?_,hS',fun x hx=>?_,fun x hx=>⟨hx.2.1,?_⟩,fun x hx=>?_,s'.ext.os,s'.ext.tape,s'.ext.output,hsz,fun x h1' h2'=>?_⟩
 ·simp only [stP,HasS]
  refine ⟨β' 1000000001,m2,T,bs,G,hh,r1.any fun _ h=>h,r4.any fun _ h=>h,HasK.frame _ h4 (fun x hx=>blk x (hSK x hx)) (fun x hx=>blk x (hGK x hx)) hS',rfl,?_,⟨r2,r3⟩,⟨r5,r6⟩⟩
  rw[List.nodup_cons,List.nodup_append]
  simp only [List.mem_append,Option.mem_toList,not_or]
  refine ⟨⟨fun hx=>?_,n1.2.1,n1.2.2⟩,?_,List.nodup_append.2 ⟨by cases m2.ownBlock<;>simp,nG,fun x hx y hy e=>dcG x (by simpa using hx) (e▸hy)⟩,fun x hx y hy e=>?_⟩
  ·have hi:=s'.inj 1000000000 1000000001 _ _ b g0 g1 (ZU.2 (by rw[k0];rfl)) (zac.2 ((zcJ svm' b).2 hx))
   exact absurd hi (by decide)
  ·cases (β' 1000000001).ownBlock<;>simp
  ·subst e
   rcases hy with hy|hy
   ·have hi:=s'.inj 1000000001 1000000002 _ _ x g1 g2 (zac.2 ((zcJ svm' x).2 hx)) (zac.2 ((by rw[k2];exact (zcJ svc x).2 hy)))
    exact absurd hi (by decide)
   ·exact (newm x hx).1 (hGK x hy)
 ·rcases hx.1 with h|h
  ·exact .inl h
  ·rcases hKn x h with h|h|h|h
   ·exact .inr (.inl (by simp [h]))
   ·exact .inr (.inl (by simp [h]))
   ·exact .inr (.inl (by simp [h]))
   ·exact .inr (.inr h)
 ·simp only [List.mem_cons,List.mem_append,Option.mem_toList,not_or]
  refine ⟨fun e=>?_,fun e=>?_,fun e=>?_,fun e=>?_⟩
  ·exact hx.2.2 1000000000 _ g0 (ZU.2 (by rw[k0,e];rfl))
  ·exact hx.2.2 1000000001 _ g1 (zac.2 ((zcJ svm' x).2 e))
  ·exact hx.2.2 1000000002 _ g2 (zac.2 (by rw[k2];exact (zcJ svc x).2 e))
  ·rcases hx.1 with h|h
   ·exact (hS x h).2 (by simp [e])
   ·exact h (hGK x e)
 ·simp only [List.mem_cons,List.mem_append,Option.mem_toList] at hx ⊢
  rcases hx with h|h|h|h
  ·exact .inl (.inl h)
  ·rcases hKn x (newm x h).1 with h|h|h|h
   ·exact .inl (.inl h)
   ·exact .inl (.inr (.inl h))
   ·exact .inl (.inr (.inr (.inl h)))
   ·exact .inr h
  ·exact .inl (.inr (.inr (.inl h)))
  ·exact .inl (.inr (.inr (.inr h)))
 ·simp only [List.mem_cons,List.mem_append,Option.mem_toList,not_or] at h2'
  exact blk x ((hKi x).2 ⟨h1',h2'.1,h2'.2.1,h2'.2.2.1⟩)
def zoJ (w:World)(b:Nat)(vm vc:Value)(T:TypeId)(n i:Nat)(cs es:List Value)(en:Ending)(w':World):Prop:=
 ∃(b2:Nat) (vc':Value),en= .returned (.pointer (some ⟨b2,0,none⟩))∧w'.heap[b]? =some (.cells #[vm,vc'] T (0,0))∧w'.heap[b2]? =some (.cells #[.slice none 0 0,.slice none 0 0] ziU (0,0))∧
  w'.ownsRow 0 tSN 5 vc' (n+1) (cs.take (i*5)++((es++ [.pointer (some ⟨b2,0,none⟩)])++cs.drop (i*5)))∧(vc'.ownBlock=vc.ownBlock∨∃k,vc'.ownBlock=some k∧w.heap.size≤k∧k≠b2)∧w.heap.size≤b2∧GrownX (fun x=>x=b∨vc.ownBlock=some x) w w'
theorem znT (w:World)(b:Nat)(vm:Value)(g n c i:Nat)(T:TypeId)(e0 e1 e2 e3 u4:Value)(h1:w.heap[b]? =some (.cells #[vm,.slice (some ⟨g,0,none⟩) n c] T (0,0)))(hi:i<n)(hn:n*40≤140737488351232)(h1e:∀u∈ [e0,e1,e2,e3],u.oneCell'=true)
  (h4:w.cell? ⟨g,i*5+4,none⟩=some u4)
  (hbs:∀W,Ext w W→Calls prog 203 #[.slice (some ⟨g,0,none⟩) n c,.agg #[e0,e1,e2,e3],.func (.func 228) #[] #[]] W fun en W'=>en= .returned (.tuple #[.int .i64 i,.bool true])∧Ext W W'):
  Calls prog 196 #[.pointer (some ⟨b,1,none⟩),.agg #[e0,e1,e2,e3]] w fun en w'=>en= .returned u4∧Ext w w':=by
 have hE0:Ext w (w.alloc (.cells #[e0,e1,e2,e3] tPE)):=(Ext.refl w).alloc _
 have hB0:=zbU (w:=w) (.cells #[e0,e1,e2,e3] tPE) rfl
 have HBS:=Lib.hid hbs;have HH:=Lib.hid h1;have H1E:=Lib.hid h1e;have H4:=Lib.hid h4
 have hn2:n≤9223372036854775807:=by omega
 clear hbs h1 h1e h4
 go_enter func196,ntmps196
 go_upto_region 1 with fail
 generalize w.alloc (.cells #[e0,e1,e2,e3] tPE)=w1 at hE0 hB0 ⊢
 refine Z7 [] (by kernel_rfl) ?_
 have HE1:Hid (Ext w w1.drew):=Lib.hid hE0.drew
 have HB1:Hid (w1.drew.heap[w.heap.size]? =some (.cells #[e0,e1,e2,e3] tPE (0,0))):=Lib.hid hB0
 clear hE0 hB0
 generalize w1.drew=w2 at HE1 HB1 ⊢
 have q1:=zh (HE1.out.heap HH.out) (i:=1) rfl
 have q2:=zh HB1.out (i:=0) rfl;have q3:=zh HB1.out (i:=1) rfl;have q4:=zh HB1.out (i:=2) rfl;have q5:=zh HB1.out (i:=3) rfl
 refine ZN (listed':=lst 11 [0,1,2,3,4]) [0,1,2,3,4] 6 (by kernel_rfl) (fun _ _ _ _ h=>h) (by kernel_rfl) rfl (by kernel_rfl) ?_
 repeat (refine z7 rfl ?_;go_big_quiet_step (fail);refine wpQuiet_nil ?_)
 refine Zr ?_
 clear q1 q2 q3 q4 q5
 refine zjS (n:=5) (i:=5) (listed':=lst 11 [0,1,2,3,4,5]) (by kernel_rfl) rfl rfl (by kernel_rfl) ?_
 go_wp2_with fail
 refine (HBS.out w2 HE1.out).mono ?_
 rintro e w3 ⟨rfl,hE3⟩
 have HE3:=Lib.hid (HE1.out.trans hE3)
 go_wp2_with fail
 refine ⟨hE3,?_⟩
 clear hE3
 refine ZN (listed':=lst 11 [0,1,2,3,4,5,6,7,8,9,10]) [6,7,8,9,10] 0 (by kernel_rfl) (fun _ _ _ _ h=>h) (by kernel_rfl) rfl (by kernel_rfl) ?_
 repeat (refine z7 rfl ?_;go_big_quiet_step (fail);refine wpQuiet_nil ?_)
 refine Zr ?_
 refine zcN (by kernel_rfl) ?_
 clear HE1 HB1
 have q1:=zh (HE3.out.heap HH.out) (i:=1) rfl
 have q2:=HE3.out.cell H4.out
 go_wp2
 go_ret
 exact ⟨rfl,HE3.out⟩
theorem zr3 (w:World)(b:Nat)(vm vc:Value)(T:TypeId)(n i:Nat)(cs:List Value)(e0 e1 e2 e3:Value)(h1:w.heap[b]? =some (.cells #[vm,vc] T (0,0)))(hown:w.ownsRow 0 tSN 5 vc n cs)(hi:i≤n)(h1e:∀u∈ [e0,e1,e2,e3],u.oneCell'=true)(h1c:∀u∈cs,u.oneCell'=true)(hn:(n+1)*40≤140737488351232)(hvb:vc.ownBlock≠some b)
  (hbs:∀W,Ext w W→Calls prog 203 #[vc,.agg #[e0,e1,e2,e3],.func (.func 228) #[] #[]] W fun en W'=>en= .returned (.tuple #[.int .i64 i,.bool false])∧Ext W W'):
  Calls prog 196 #[.pointer (some ⟨b,1,none⟩),.agg #[e0,e1,e2,e3]] w (zoJ w b vm vc T n i cs [e0,e1,e2,e3]):=by
 have hb:b<w.heap.size:=(Array.getElem?_eq_some_iff.1 h1).1
 have hE0:Ext w (w.alloc (.cells #[e0,e1,e2,e3] tPE)):=(Ext.refl w).alloc _
 have hB0:=zbU (w:=w) (.cells #[e0,e1,e2,e3] tPE) rfl
 obtain ⟨A0,c0,hv0⟩:∃A c,vc= .slice A n c:=by
  rcases hown.2 with ⟨k1,k2⟩|⟨g,cap,cur,k1,_,_,_,_⟩
  ·exact ⟨none,0,by rw[k1,k2]⟩
  ·exact ⟨_,cap,k1⟩
 subst hv0
 have HBS:=Lib.hid hbs;have HO:=Lib.hid hown;have HH:=Lib.hid h1;have H1E:=Lib.hid h1e;have H1C:=Lib.hid h1c
 clear hbs hown h1 h1e h1c
 go_enter func196,ntmps196
 go_upto_region 1 with fail
 generalize w.alloc (.cells #[e0,e1,e2,e3] tPE)=w1 at hE0 hB0 ⊢
 refine Z7 [] (by kernel_rfl) ?_
 have HE1:Hid (Ext w w1.drew):=Lib.hid hE0.drew
 have HB1:Hid (w1.drew.heap[w.heap.size]? =some (.cells #[e0,e1,e2,e3] tPE (0,0))):=Lib.hid hB0
 clear hE0 hB0
 generalize w1.drew=w2 at HE1 HB1 ⊢
 have q1:=zh (HE1.out.heap HH.out) (i:=1) rfl
 have q2:=zh HB1.out (i:=0) rfl;have q3:=zh HB1.out (i:=1) rfl;have q4:=zh HB1.out (i:=2) rfl;have q5:=zh HB1.out (i:=3) rfl
 refine ZN (listed':=lst 11 [0,1,2,3,4]) [0,1,2,3,4] 6 (by kernel_rfl) (fun _ _ _ _ h=>h) (by kernel_rfl) rfl (by kernel_rfl) ?_
 repeat (refine z7 rfl ?_;go_big_quiet_step (fail);refine wpQuiet_nil ?_)
 refine Zr ?_
 clear q1 q2 q3 q4 q5
 refine zjS (n:=5) (i:=5) (listed':=lst 11 [0,1,2,3,4,5]) (by kernel_rfl) rfl rfl (by kernel_rfl) ?_
 go_wp2_with fail
 refine (HBS.out w2 HE1.out).mono ?_
 rintro e w3 ⟨rfl,hE3⟩
 have HE3:=Lib.hid (HE1.out.trans hE3);have HB3:=Lib.hid (hE3.heap HB1.out)
 go_wp2_with fail
 refine ⟨hE3,?_⟩
 clear hE3
 refine ZN (listed':=lst 11 [0,1,2,3,4,5,6,7,8,9,10]) [6,7,8,9,10] 0 (by kernel_rfl) (fun _ _ _ _ h=>h) (by kernel_rfl) rfl (by kernel_rfl) ?_
 repeat (refine z7 rfl ?_;go_big_quiet_step (fail);refine wpQuiet_nil ?_)
 refine Zr ?_
 refine zcN (by kernel_rfl) ?_
 clear HE1 HB1
 go_upto_region 4 with fail
 refine wp_region_any (by kernel_rfl) ?_
 change wpAny _ _ _ _ _ _ _ (World.drew _)
 have HE4:Hid (Ext w w3.drew):=Lib.hid HE3.out.drew
 have HB4:Hid (w3.drew.heap[w.heap.size]? =some (.cells #[e0,e1,e2,e3] tPE (0,0))):=Lib.hid HB3.out
 clear HE3 HB3
 generalize w3.drew=w4 at HE4 HB4 ⊢
 refine wpAny_take (i:=0) (v:= ?v0) (ZX rfl) (by kernel_rfl) (by kernel_rfl) (by kernel_rfl) (fun _ _ _ h=>h) (Or.inl ⟨by rfl,?y0⟩) ?r0
 case y0=>(intro W;go_simp;with_reducible rfl)
 refine wpAny_take (i:=1) (v:= ?v1) (ZX rfl) (by kernel_rfl) (by kernel_rfl) (by kernel_rfl) (fun _ _ _ h=>h) (Or.inl ⟨by rfl,?y1⟩) ?r1
 case y1=>(intro W;go_simp;with_reducible rfl)
 refine wpAny_take (i:=2) (v:= ?v2) (ZX rfl) (by kernel_rfl) (by kernel_rfl) (by kernel_rfl) (fun _ _ _ h=>h) (Or.inl ⟨by rfl,?y2⟩) ?r2
 case y2=>(intro W;go_simp;with_reducible rfl)
 refine wpAny_take (i:=3) (v:= ?v3) (ZX rfl) (by kernel_rfl) (by kernel_rfl) (by kernel_rfl) (fun _ _ _ h=>h) (Or.inl ⟨by rfl,?y3⟩) ?r3
 case y3=>(intro W;go_simp;with_reducible rfl)
 refine wpAny_take (i:=5) (v:= ?v5) (ZX rfl) (by kernel_rfl) (by kernel_rfl) (by kernel_rfl) (fun _ _ _ h=>h) (Or.inl ⟨by rfl,?y5⟩) ?r5
 case y5=>(intro W;go_simp;with_reducible rfl)
 refine wpAny_take (i:=7) (v:= ?v7) (ZX rfl) (by kernel_rfl) (by kernel_rfl) (by kernel_rfl) (fun _ _ _ h=>h) (Or.inl ⟨by rfl,?y7⟩) ?r7
 case y7=>(intro W;go_simp;with_reducible rfl)
 refine zfE (B:=[11,14]) _ _ _ _ ?_
 simp only [Act.put,List.setIfInBounds_toArray,List.set_cons_zero,List.set_cons_succ]
 have q1:=zh (HE4.out.heap HH.out) (i:=1) rfl
 have q2:=zh HB4.out (i:=0) rfl;have q3:=zh HB4.out (i:=1) rfl;have q4:=zh HB4.out (i:=2) rfl;have q5:=zh HB4.out (i:=3) rfl
 refine ZN (listed':=lst 15 [0,1,2,3,4,5,6,7]) [4,6] 7 (by kernel_rfl) (fun _ _ _ _ h=>h) (by kernel_rfl) rfl (by kernel_rfl) ?_
 repeat (refine z7 rfl ?_;go_big_quiet_step (fail);refine wpQuiet_nil ?_)
 refine Zr ?_
 clear q1 q2 q3 q4 q5
 have hE5:Ext w4 (w4.alloc (.cells #[.slice none 0 0,.slice none 0 0] ziU)):=(Ext.refl _).alloc _
 have hB5:=zbU (w:=w4) (.cells #[.slice none 0 0,.slice none 0 0] ziU) rfl
 refine zjS (n:=6) (i:=8) (listed':=lst 15 [0,1,2,3,4,5,6,7,8]) (by kernel_rfl) rfl rfl (by kernel_rfl) ?_
 go_wp2_with fail
 refine ⟨hE5,?_⟩
 have hs5:Hid ((w4.alloc (.cells #[.slice none 0 0,.slice none 0 0] ziU)).heap.size=w4.heap.size+1):=Lib.hid (zC _ _)
 have HE5:Hid (Ext w (w4.alloc (.cells #[.slice none 0 0,.slice none 0 0] ziU))):=Lib.hid (HE4.out.trans hE5)
 have HB5:=Lib.hid hB5
 have hw4:=Lib.hid HE4.out.size
 clear hE5 hB5 HE4 HB4
 generalize w4.alloc (.cells #[.slice none 0 0,.slice none 0 0] ziU)=w5 at HE5 HB5 hs5 ⊢
 refine ZN (listed':=lst 15 [0,1,2,3,4,5,6,7,8,9]) [9] 5 (by kernel_rfl) (fun _ _ _ _ h=>h) (by kernel_rfl) rfl (by kernel_rfl) ?_
 repeat (refine z7 rfl ?_;go_big_quiet_step (fail);refine wpQuiet_nil ?_)
 refine Zr ?_
 have hE6:Ext w5 (w5.alloc (.cells #[e0,e1,e2,e3,.pointer (some ⟨w4.heap.size,0,none⟩)] tSN)):=(Ext.refl _).alloc _
 have hB6:=zbU (w:=w5) (.cells #[e0,e1,e2,e3,.pointer (some ⟨w4.heap.size,0,none⟩)] tSN) rfl
 refine zjS (n:=4) (i:=10) (listed':=lst 15 [0,1,2,3,4,5,6,7,8,9,10]) (by kernel_rfl) rfl rfl (by kernel_rfl) ?_
 go_wp2_with fail
 refine ⟨hE6,?_⟩
 have hs6:Hid ((w5.alloc (.cells #[e0,e1,e2,e3,.pointer (some ⟨w4.heap.size,0,none⟩)] tSN)).heap.size=w5.heap.size+1):=Lib.hid (zC _ _)
 have HE6:Hid (Ext w (w5.alloc (.cells #[e0,e1,e2,e3,.pointer (some ⟨w4.heap.size,0,none⟩)] tSN))):=Lib.hid (HE5.out.trans hE6)
 have HB6:=Lib.hid hB6
 have HB7:=Lib.hid (hE6.heap HB5.out)
 clear hE6 hB6 HE5 HB5
 generalize w5.alloc (.cells #[e0,e1,e2,e3,.pointer (some ⟨w4.heap.size,0,none⟩)] tSN)=w6 at HE6 HB6 HB7 hs6 ⊢
 refine zcG (n:=3) (i:=11) (listed':=lst 15 [0,1,2,3,4,5,6,7,8,9,10,11]) (by kernel_rfl) rfl rfl rfl (by kernel_rfl) ?_
 go_wp2_with fail
 have hown6:w6.ownsRow 0 tSN 5 (.slice A0 n c0) n cs:=by
  refine ⟨HO.out.1,?_⟩
  rcases HO.out.2 with h0|⟨g,cap,cur,k1,k2,k3,k4⟩
  ·exact .inl h0
  ·exact .inr ⟨g,cap,cur,k1,k2,HE6.out.heap k3,k4⟩
 have hrow:∀k,(Value.slice A0 n c0).ownBlock=some k→k<w.heap.size:=fun k hk=>(HO.out.lt k hk).2
 refine (znN w6 (.slice A0 n c0) n i cs [e0,e1,e2,e3,.pointer (some ⟨w4.heap.size,0,none⟩)] ⟨w5.heap.size,0,none⟩ 1 hown6 hi rfl (fun j u hj=>by rw[zhz];exact zh HB6.out (by simpa using hj)) (fun u hu=>?_) H1C.out (fun hk=>by have h1:w5.heap.size<w.heap.size:=hrow _ hk;have:=hs5.out;have:=hw4.out;omega) hn).mono ?_
 ·simp only [List.mem_cons,List.not_mem_nil,or_false] at hu
  rcases hu with h|h|h|h|h
  ·exact H1E.out u (by simp [h])
  ·exact H1E.out u (by simp [h])
  ·exact H1E.out u (by simp [h])
  ·exact H1E.out u (by simp [h])
  ·rw[h];rfl
 rintro e w7 ⟨v',rfl,hown7,hg7,hat7⟩
 obtain ⟨g',cap',cur',rfl,z1,z2,z3,z4,z5⟩:=World.ownsRow.one hown7 (by omega)
 have HC7:Hid (w7.heap[b]? =some (.cells #[vm,.slice A0 n c0] T (0,0))):=Lib.hid ((hg7.block b (by have:=HE6.out.size;omega) (fun h=>hvb h.symm)).trans (HE6.out.heap HH.out))
 have hgb:g'≠b:=fun h=>by
  rcases hat7 with k|⟨k',k,k5,_⟩
  ·exact hvb (by rw[←k,h];rfl)
  ·have k:g'=k':=by injection k
   have:=HE6.out.size;omega
 have q1:=zh HC7.out (i:=1) rfl
 have hfz:∀o,w7.frozen? ⟨b,o,none⟩=false:=fun o=>by simp [World.frozen?,HC7.out]
 have HO7:=Lib.hid hown7;have HG7:=Lib.hid hg7;have HA7:=Lib.hid hat7;have HZ1:=Lib.hid z1;have HZ5:=Lib.hid z5
 clear hown7 hg7 hat7 hown6 z1 z5
 go_wp2_with fail
 refine ZN (listed':=lst 15 [0,1,2,3,4,5,6,7,8,9,10,11,12,13]) [12,13] 1 (by kernel_rfl) (fun _ _ _ _ h=>h) (by kernel_rfl) rfl (by kernel_rfl) ?_
 repeat (refine z7 rfl ?_;go_big_quiet_step (fail);refine wpQuiet_nil ?_)
 refine Zr ?_
 refine zcG (n:=0) (i:=14) (listed':=lst 15 [0,1,2,3,4,5,6,7,8,9,10,11,12,13,14]) (by kernel_rfl) rfl rfl rfl (by kernel_rfl) ?_
 go_wp2_with fail
 refine zcN (by kernel_rfl) ?_
 have HB8:Hid ((w7.setCell ⟨b,1,none⟩ (.slice (some ⟨g',0,none⟩) (n+1) cap')).heap[b]? =some (.cells #[vm,.slice (some ⟨g',0,none⟩) (n+1) cap'] T (0,0))):=Lib.hid (zaQ _ HC7.out)
 have hsm:=zah w7 b 1 (.slice (some ⟨g',0,none⟩) (n+1) cap')
 have hsz:(w7.setCell ⟨b,1,none⟩ (.slice (some ⟨g',0,none⟩) (n+1) cap')).heap.size=w7.heap.size:=by simp [World.setCell]
 have HD:Hid (zoJ w b vm (.slice A0 n c0) T n i cs [e0,e1,e2,e3] (.returned (.pointer (some ⟨w4.heap.size,0,none⟩))) (w7.setCell ⟨b,1,none⟩ (.slice (some ⟨g',0,none⟩) (n+1) cap'))):=by
  have hw4:=hw4.out;have hs5:=hs5.out;have hs6:=hs6.out
  have x1:=HG7.out.size
  refine ⟨w4.heap.size,.slice (some ⟨g',0,none⟩) (n+1) cap',rfl,HB8.out,?_,⟨HO7.out.1,.inr ⟨g',cap',cur',rfl,Nat.zero_le _,(hsm g' hgb).trans HZ1.out,z2,z3,z4,HZ5.out⟩⟩,?_,hw4,?_⟩
  ·refine (hsm _ (by omega)).trans ((HG7.out.block w4.heap.size (by omega) fun h=>?_).trans HB7.out)
   have:=hrow _ h.symm;omega
  ·rcases HA7.out with k|⟨k',k,k5,_⟩
   ·exact .inl k
   ·exact .inr ⟨k',k,by have:=HE6.out.size;omega,by omega⟩
  ·have y1:GrownX (fun x=>x=b∨(Value.slice A0 n c0).ownBlock=some x) w w6:=⟨HE6.out.os,HE6.out.tape,HE6.out.output,HE6.out.size,fun k hk _=>HE6.out.block k hk⟩
   have y2:GrownX (fun x=>x=b∨(Value.slice A0 n c0).ownBlock=some x) w6 w7:=GrownX.of HG7.out fun x hx=>.inr hx
   have y3:GrownX (fun x=>x=b∨(Value.slice A0 n c0).ownBlock=some x) w7 (w7.setCell ⟨b,1,none⟩ (.slice (some ⟨g',0,none⟩) (n+1) cap')):=⟨rfl,rfl,rfl,by omega,fun k hk hq=>hsm k fun e=>hq (.inl e)⟩
   exact (y1.trans y2).trans y3
 have q7:=zh HB8.out (i:=1) rfl
 have q8:(w7.setCell ⟨b,1,none⟩ (.slice (some ⟨g',0,none⟩) (n+1) cap')).cell? ⟨g',i*5+4,none⟩=some (.pointer (some ⟨w4.heap.size,0,none⟩)):=by
  refine zh ((hsm g' hgb).trans HZ1.out) ?_
  have h1:(cur'.toList.take ((n+1)*5))[i*5+4]? =some (.pointer (some ⟨w4.heap.size,0,none⟩)):=by
   rw[HZ5.out,List.getElem?_append_right (by rw[List.length_take,HO.out.1];omega),List.length_take,HO.out.1,Nat.min_eq_left (Nat.mul_le_mul_right 5 hi),Nat.add_sub_cancel_left]
   rfl
  rw[List.getElem?_take] at h1
  split at h1
  ·simpa using h1
  ·cases h1
 have hi1:i<n+1:=by omega
 have hn1:n+1≤9223372036854775807:=by omega
 clear HB8 hsm hsz q1 hfz HZ1 HZ5 HO7 HG7 HA7 HC7
 generalize w7.setCell ⟨b,1,none⟩ (.slice (some ⟨g',0,none⟩) (n+1) cap')=w8 at HD q7 q8 ⊢
 go_wp2
 go_ret
 exact HD.out
def zlo (ks:PK)(bs:List Nat):List (LE×D):=List.zipWith (fun e b=>(z9 e,ptB b)) ks.es bs
theorem zkx {ks:PK}{bs:List Nat}:zaP (skP ks) bs=(zlo ks bs).map ndD:=by
 rw[zdf,zfT,zlo,List.map_zipWith,List.zipWith_map_left]
theorem ziW {ks:PK}{bs:List Nat}(h:bs.length=ks.es.length):(zlo ks bs).map (·.1)=ks.es.map z9:=by
 rw[zlo,List.map_zipWith]
 have:∀(l:List EV) (m:List Nat),m.length=l.length→List.zipWith (fun e _=>z9 e) l m=l.map z9:=fun l=>by
  induction l with
  |nil=>intro m _;simp
  |cons a l ih=>
   intro m hm
   cases m with
   |nil=>simp at hm
   |cons x m=>simp [ih m (by simpa using hm)]
 exact this _ _ h
theorem RDs.cells {P:Program}{S:Nat→Prop}{w:World}{E:TypeId}{k:Nat}{S0:Nat→Prop}{v:Value}{xs:List (List D)}(h:Build (RDs P) E k S0 S w v xs)(hk:0<k):∃cs,w.ownsRow 0 E k v xs.length cs∧(∀u∈cs,u.oneCell'=true)∧Elems (RDs P w fun b=>S b∧v.ownBlock≠some b) k xs cs:=by
 obtain ⟨cs,h1,_,h2⟩:=h
 exact ⟨cs,h1,zkr h2 hk,h2⟩
theorem zgp:prog.cellsOf tSN=5:=by kernel_rfl
theorem zr4:prog.bytesOf tSN=40:=by kernel_rfl
theorem ziX {FS:List (List Nat)}(nd:FS.flatten.Nodup){i j:Nat}(hne:i≠j){F G:List Nat}(hF:FS[i]? =some F)(hG:FS[j]? =some G):∀x∈F,x∉G:=by
 have h:=(List.pairwise_iff_getElem.1 (List.pairwise_flatten.1 nd).2)
 obtain ⟨h1,rfl⟩:=List.getElem?_eq_some_iff.1 hF
 obtain ⟨h2,rfl⟩:=List.getElem?_eq_some_iff.1 hG
 intro x hx hy
 rcases Nat.lt_or_gt_of_ne hne with hl|hl
 ·exact h i j h1 h2 hl x hx x hy rfl
 ·exact h j i h2 h1 hl x hy x hx rfl
theorem Kids.put {P:Program}{S S':Nat→Prop}{w w':World}{ts:List ST}{bs:List Nat}{FS:List (List Nat)}(h:Kids P S w ts bs FS){i:Nat}{t:ST}{b:Nat}{F F':List Nat}(hb:bs[i]? =some b)(hF:FS[i]? =some F)(ht:HasS P S' w' t b F')
  (e:Same S w w') (hblk:∀x,x<w.heap.size→x∉F→w'.heap[x]? =w.heap[x]?) (nd:FS.flatten.Nodup) (hS:∀x,S x→S' x):Kids P S' w' (ts.set i t) bs (FS.set i F'):=by
 refine ⟨by simp [h.1],by simp [h.2.1],fun j t' b' G h1 h2 h3=>?_⟩
 by_cases hij:i=j
 ·subst hij
  rw[hb] at h2;cases h2
  have hl:=(List.getElem?_eq_some_iff.1 hb).1
  rw[List.getElem?_set_self (by rw[←h.1];exact hl)] at h1
  rw[List.getElem?_set_self (by rw[h.2.1,←h.1];exact hl)] at h3
  cases h1;cases h3;exact ht
 ·rw[List.getElem?_set_ne hij] at h1 h3
  have k:=h.2.2 j t' b' G h1 h2 h3
  exact HasS.frame t' k e (fun x hx=>hblk x (HasS.blocks _ k x hx) fun hxF=>ziX nd hij hF h3 x hxF hx) hS
theorem GrownX.mono {Q Q':Nat→Prop}{w w':World}(h:GrownX Q w w')(k:∀x,Q x→Q' x):GrownX Q' w w':=⟨h.os,h.tape,h.output,h.size,fun x hx hq=>h.block x hx fun hx'=>hq (k x hx')⟩
theorem GrownX.ofExt {Q:Nat→Prop}{w w':World}(h:Ext w w'):GrownX Q w w':=⟨h.os,h.tape,h.output,h.size,fun x hx _=>h.block x hx⟩
theorem zmG {S:Nat→Prop}{w:World}{ms:List EV}{ks:PK}{b:Nat}{F:List Nat}{N:Nat}(h:HasS prog S w (stP (.mk ms ks)) b F)(hS:∀x,S x→x<w.heap.size∧x∉F)(ok:OkS N (.mk ms ks))(hN:(N+1)*40≤140737488351232)
  (e:EV) (he:GoodE e) (u:Value) (hu:RepA prog S noB noH w (leA (z9 e)) u):
  Calls prog 196 #[.pointer (some ⟨b,1,none⟩),u] w fun en w'=>∃b2 F2,en= .returned (.pointer (some ⟨b2,0,none⟩))∧HasS prog S w' (stP (Zw e ks)) b2 F2∧(∀x∈F2,x∈F∨w.heap.size≤x)∧GrownX (· ∈F) w w'∧
   ∀(t:PS) (w2:World),zct prog S w' b2 F2 (stP t) w2→zct prog S w b F (stP (.mk ms (zbz e t ks))) w2:=by
 have hFw:=HasS.blocks _ h
 simp only [stP,HasS] at h
 obtain ⟨vm,vc,T,bs,G,h1,h2,h3,h4,rfl,h5,h6,h7⟩:=h
 simp only [OkS] at ok
 obtain ⟨FS,hk,rfl⟩:=(zeX _ _ _).1 h4
 have hbl:bs.length=ks.es.length:=by have:=hk.1;rw[zej,List.length_map,PK.ss_length] at this;exact this
 have hrl:(zaP (skP ks) bs).length=ks.es.length:=by rw[zkx,List.length_map,zlo];simp [hbl]
 obtain ⟨cs,hown,h1c,hel⟩:=RDs.cells h3 (show 0<prog.cellsOf tSN by rw[zgp];omega)
 rw[zgp] at hown hel
 rw[hrl] at hown
 have hB:=zoD ok.2.2.2.2.1 ok.2.2.2.1 he
 have hA:=zr1 ok.2.2.2.1 he
 obtain ⟨i,hi⟩:∃i,i=lbE e ks.es:=⟨_,rfl⟩
 rw[←hi] at hB hA
 have hile:i≤ks.es.length:=by rw[hi];exact znK e _
 have hbs:∀fd,(fd=true↔zgT e ks.es)→∀W,Ext w W→Calls prog 203 #[vc,u,.func (.func 228) #[] #[]] W fun en W'=>en= .returned (.tuple #[.int .i64 i,.bool fd])∧Ext W W':=fun fd hfd W hW=>by
  have hc:=znP 228 (zlo ks bs) (z9 e) i fd (by simp only [zlo,List.length_zipWith,hbl,Nat.min_self];omega)
   (fun x hx=>zpZ x (z9 e) (by
    have:x.1∈(zlo ks bs).map (·.1):=List.mem_map_of_mem hx
    rw[ziW hbl] at this
    obtain ⟨y,hy,hye⟩:=List.mem_map.1 this
    rw[←hye];exact (ok.2.2.2.1 y hy).f.le) he.f.le) (by rw[ziW hbl];exact hB) (by rw[ziW hbl,hfd];exact hA.symm)
  have hd:RepD prog W (· <W.heap.size) (zvt (zlo ks bs)) vc:=by
   have:RepD prog w (· <w.heap.size) (.sl tSN (zaP (skP ks) bs)) vc:=h3.data h7 rfl (fun j x y hx hy=>by rw[hx] at hy;cases hy;exact ⟨rfl,fun us k=>(zu _).frame k (fun _ _=>rfl) fun b hb=>(hS b hb).1⟩) fun k hk=>h3.row_lt hk
   rw[zkx] at this
   exact (this.ext hW).mono fun b hb=>Nat.lt_of_lt_of_le hb hW.size
  have hu2:RepA prog (· <W.heap.size) noB noH W (leA (z9 e)) u:=by
   obtain ⟨us,hq,ha⟩:=hu
   refine ⟨us,hq,ha.imp fun x y hx k=>?_⟩
   obtain ⟨d,_,rfl⟩:=List.mem_map.1 hx
   exact ((show RepD _ w S d y from k).ext hW).mono fun b hb=>Nat.lt_of_lt_of_le (hS b hb).1 hW.size
  refine (hc.2 W (· <W.heap.size) [vc,u,_] (fun b hb=>hb) (.cons hd (.cons hu2 (.cons (RepD.v rfl) .nil)))).mono ?_
  rintro en W' ⟨v,r,rfl,rfl,hv,hE⟩
  refine ⟨?_,hE⟩
  obtain ⟨us,rfl,ha⟩:=hv
  obtain ⟨p1,us,rfl,k1,ha⟩:=ha.inv
  obtain ⟨p2,us,rfl,k2,ha⟩:=ha.inv
  cases ha.inv0
  obtain ⟨x1,e1,k1⟩:=k1
  obtain ⟨x2,e2,k2⟩:=k2
  cases e1;cases e2
  cases (show RepD _ W' _ (dI i) p1 from k1)
  cases (show RepD _ W' _ (dB fd) p2 from k2)
  rfl
 obtain ⟨us,hq,ha⟩:=(show ∃us,u= .agg (List.toArray us)∧All2 (RepC prog S noB noH w) (cls (eD e)) us from hu)
 have hul:us.length=4:=by rw[←ha.length];obtain ⟨d0,d1,d2,d3,hd,_⟩:=zby (z9 e);show (cls (leD (z9 e))).length=4;rw[hd];rfl
 have h1e:∀x∈us,x.oneCell'=true:=fun x hx=>by obtain ⟨y,_,hy⟩:=ha.mem x hx;exact RepC.one hy
 have hud:RDs prog w S (eD e) us:=by
  have key:∀(l:List D) (us:List Value),All2 (RepC prog S noB noH w) (cls l) us→All2 (RepD prog w S) l us:=fun l=>by
   induction l with
   |nil=>intro us h;rw[h.inv0];exact .nil
   |cons d l ih=>intro us h;obtain ⟨y,ys,rfl,h1,h2⟩:=h.inv;exact .cons h1 (ih ys h2)
  exact key _ _ ha
 obtain ⟨u0,u1,u2,u3,rfl⟩:∃u0 u1 u2 u3,us= [u0,u1,u2,u3]:=by
  match us,hul with
  | [u0,u1,u2,u3],_=>exact ⟨_,_,_,_,rfl⟩
 subst hq
 clear hu
 have eF:∀X:List Nat,b::(vm.ownBlock.toList++(vc.ownBlock.toList++X))=(b::(vm.ownBlock.toList++vc.ownBlock.toList))++X:=fun X=>by simp
 have nd:=h5
 rw[List.nodup_cons,List.nodup_append] at h5
 obtain ⟨n1,nvm,h5,n2⟩:=h5
 rw[List.nodup_append] at h5
 obtain ⟨nvc,nG,n3⟩:=h5
 simp only [List.mem_append,Option.mem_toList,not_or] at n1 n2 n3
 have hSF:∀x,S x→x<w.heap.size∧x≠b∧vm.ownBlock≠some x∧vc.ownBlock≠some x∧x∉FS.flatten:=fun x hx=>by
  have h:=hS x hx
  simp only [List.mem_cons,List.mem_append,Option.mem_toList,not_or] at h
  exact ⟨h.1,h.2.1,h.2.2.1,h.2.2.2.1,h.2.2.2.2⟩
 have hbw:b<w.heap.size:=hFw b (by simp)
 have hnum:(ks.es.length+1)*40≤140737488351232:=by omega
 by_cases hf:zgT e ks.es
 ·obtain ⟨x,hx,hx0⟩:=hf
  have hf:zgT e ks.es:=⟨x,hx,hx0⟩
  rw[←hi] at hx
  have hilt:i<ks.es.length:=(List.getElem?_eq_some_iff.1 hx).1
  obtain ⟨g,cap,cur,rfl,g2,g3,_,_,g6⟩:=World.ownsRow.one hown (by omega)
  obtain ⟨b2,hb2⟩:∃b2,bs[i]? =some b2:=⟨_,List.getElem?_eq_getElem (by omega)⟩
  have hFl:FS.length=ks.es.length:=by rw[hk.2.1,zej,List.length_map,PK.ss_length]
  obtain ⟨F2,hF2⟩:∃F2,FS[i]? =some F2:=⟨_,List.getElem?_eq_getElem (by omega)⟩
  have hrow:(zaP (skP ks) bs)[i]? =some (eD x++ [ptB b2]):=by
   rw[zdf,zfT,List.getElem?_zipWith,List.getElem?_map,hx,hb2];rfl
  have hcell:w.cell? ⟨g,i*5+4,none⟩=some (.pointer (some ⟨b2,0,none⟩)):=by
   have hr:=hel.2 i _ hrow
   have h44:(eD x++ [ptB b2])[4]? =some (ptB b2):=by
    obtain ⟨d0,d1,d2,d3,hd,_⟩:=zby (z9 x)
    show (leD (z9 x)++ [ptB b2])[4]? =_
    rw[hd];rfl
   obtain ⟨y,hy,hyr⟩:=All2.at hr h44
   cases (show RepD _ w _ (ptB b2) y from hyr)
   rw[List.getElem?_take,if_pos (by omega),List.getElem?_drop,←g6,List.getElem?_take] at hy
   split at hy
   ·exact zh g2 (by simpa using hy)
   ·cases hy
  have hkid:HasS prog S w (stP (Zw e ks)) b2 F2:=hk.2.2 i _ b2 F2 (by rw[zej,List.getElem?_map,hi,zoH e (by rw[←hi];exact hx) hx0];rfl) hb2 hF2
  have hF2F:∀y∈F2,y∈FS.flatten:=fun y hy=>List.mem_flatten.2 ⟨F2,List.mem_of_getElem? hF2,hy⟩
  refine (znT w b vm g _ cap i T u0 u1 u2 u3 _ h1 hilt (by omega) h1e hcell (hbs true (by simp [hf]))).mono ?_
  rintro en w' ⟨rfl,hE⟩
  refine ⟨b2,F2,rfl,HasS.frame _ hkid (fun y hy=>hE.block y (hSF y hy).1) (fun y hy=>hE.block y (HasS.blocks _ hkid y hy)) fun _ h=>h,fun y hy=>.inl (by rw[eF];exact List.mem_append_right _ (hF2F y hy)),.ofExt hE,?_⟩
  rintro t w2 ⟨F',S',k1,k2,k3,k4,k5,k6⟩
  have hEs:=hE.size
  have stay:∀y,y<w.heap.size→y∉F2→w2.heap[y]? =w.heap[y]? :=fun y hy hn=>(k6.block y (by omega) hn).trans (hE.block y hy)
  have sameS:Same S w w2:=fun y hy=>stay y (hSF y hy).1 fun h=>(hSF y hy).2.2.2.2 (hF2F y h)
  have hrow2:zaP (skP (zbz e t ks)) bs=zaP (skP ks) bs:=by rw[zdf,zdf,zfT,zfT,(zfS e t hf).1]
  have hts:(skP (zbz e t ks)).ts=(skP ks).ts.set i (stP t):=by rw[zej,zej,(zfS e t hf).2,hi,List.map_set]
  have hlt:∀y∈(b::(vm.ownBlock.toList++(Value.slice (some ⟨g,0,none⟩) ks.es.length cap).ownBlock.toList))++FS.flatten,y<w'.heap.size:=fun y hy=>by
   have:=hFw y (by rw[eF];exact hy)
   omega
  refine ⟨b::(vm.ownBlock.toList++((Value.slice (some ⟨g,0,none⟩) ks.es.length cap).ownBlock.toList++(FS.set i F').flatten)),S',?_,k2,fun y hy=>?_,fun y hy=>⟨(k4 y hy).1,?_⟩,fun y hy=>?_,?_⟩
  ·simp only [stP,HasS]
   refine ⟨vm,_,T,bs,(FS.set i F').flatten,(stay b hbw fun h=>n1.2.2 (hF2F b h)).trans h1,h2.frame (zu _) (fun y hy=>stay y (h2.row_lt hy) fun h=>n2 y hy y (.inr (hF2F y h)) rfl) (fun y hy=>sameS y hy.1) (fun _ h=>h) k2,?_,(zeX _ _ _).2 ⟨_,?_,rfl⟩,rfl,?_,h6,by rw[hrow2];exact h7⟩
   ·rw[hrow2]
    exact h3.frame (zu _) (fun y hy=>stay y (h3.row_lt hy) fun h=>n3 y hy y (hF2F y h) rfl) (fun y hy=>sameS y hy.1) (fun _ h=>h) k2
   ·rw[hts]
    exact hk.put hb2 hF2 k1 sameS stay nG k2
   ·rw[eF]
    rw[eF] at nd
    exact zpX nd hF2 (HasS.nodup _ k1) hlt k5
  ·rcases k3 y hy with h|h|h
   ·exact .inl h
   ·exact .inr (.inl (by rw[eF];exact List.mem_append_right _ (hF2F y h)))
   ·exact .inr (.inr (by omega))
  ·rw[eF]
   have k4y:=(k4 y hy).2
   have old:y∉F2→y<w.heap.size→S y:=fun h1 h2=>by
    rcases k3 y hy with h|h|h
    ·exact h
    ·exact absurd h h1
    ·omega
   have inA:y∉FS.flatten→y∉(b::(vm.ownBlock.toList++(Value.slice (some ⟨g,0,none⟩) ks.es.length cap).ownBlock.toList)):=fun hn hA=>by
    have hyw:=hFw y (by rw[eF];exact List.mem_append_left _ hA)
    have hs:=hSF y (old (fun h=>hn (hF2F y h)) hyw)
    simp only [List.mem_cons,List.mem_append,Option.mem_toList] at hA
    rcases hA with h|h|h
    ·exact hs.2.1 h
    ·exact hs.2.2.1 h
    ·exact hs.2.2.2.1 h
   intro hm
   rcases List.mem_append.1 hm with hm|hm
   ·by_cases hfl:y∈FS.flatten
    ·rw[eF] at nd
     exact (List.nodup_append.1 nd).2.2 y hm y hfl rfl
    ·exact inA hfl hm
   ·obtain ⟨G,hG,hyG⟩:=List.mem_flatten.1 hm
    obtain ⟨j,hj,rfl⟩:=List.getElem_of_mem hG
    rw[List.getElem_set] at hyG
    split at hyG
    ·exact k4y hyG
    ·next hij=>
     have hj':j<FS.length:=by simpa using hj
     have hyf:y∈FS.flatten:=List.mem_flatten.2 ⟨_,List.getElem_mem hj',hyG⟩
     have hyw:=hFw y (by rw[eF];exact List.mem_append_right _ hyf)
     exact (hSF y (old (fun h=>ziX nG hij hF2 (List.getElem?_eq_getElem hj') y h hyG) hyw)).2.2.2.2 hyf
  ·rw[eF] at hy
   rcases List.mem_append.1 hy with hy|hy
   ·exact .inl (by rw[eF];exact List.mem_append_left _ hy)
   ·obtain ⟨G,hG,hyG⟩:=List.mem_flatten.1 hy
    rcases List.mem_or_eq_of_mem_set hG with hG|rfl
    ·exact .inl (by rw[eF];exact List.mem_append_right _ (List.mem_flatten.2 ⟨G,hG,hyG⟩))
    ·rcases k5 y hyG with h|h
     ·exact .inl (by rw[eF];exact List.mem_append_right _ (hF2F y h))
     ·exact .inr (by omega)
  ·exact (GrownX.ofExt hE).trans (k6.mono fun y hy=>by rw[eF];exact List.mem_append_right _ (hF2F y hy))
 ·have hvb:vc.ownBlock≠some b:=n1.2.1
  refine (zr3 w b vm vc T ks.es.length i cs u0 u1 u2 u3 h1 hown hile h1e h1c hnum hvb (hbs false (by simp [hf]))).mono ?_
  rintro en w' ⟨b2,vc',rfl,g1,g2,g3,g4,g5,g6⟩
  have hb2w:b2<w'.heap.size:=(Array.getElem?_eq_some_iff.1 g2).1
  have g6s:=g6.size
  have hGE:GrownX (· ∈b::(vm.ownBlock.toList++(vc.ownBlock.toList++FS.flatten))) w w':=g6.mono fun x hx=>by
   rcases hx with rfl|hx
   ·simp
   ·simp [hx]
  have em:HasS prog S w' (stP .empty) b2 [b2]:=by
   simp only [PS.empty,stP,skP,List.map_nil,HasS]
   refine ⟨.slice none 0 0,.slice none 0 0,ziU,[],[],g2,Build.nil,Build.nil,⟨rfl,rfl⟩,by simp [Value.ownBlock],by simp,?_,?_⟩<;>simp [zlJ,zaP]
  refine ⟨b2,[b2],rfl,by rw[zmD e hf];exact em,fun x hx=>.inr (by simp at hx;omega),hGE,?_⟩
  rintro t w2 ⟨F',S',k1,k2,k3,k4,k5,k6⟩
  have k6s:=k6.size
  have stay:∀y,y<w.heap.size→y≠b→vc.ownBlock≠some y→w2.heap[y]? =w.heap[y]? :=fun y hy ha hc=>(k6.block y (by omega) (by simp;omega)).trans (g6.block y hy fun h=>h.elim ha hc)
  have sameS:Same S w w2:=fun y hy=>stay y (hSF y hy).1 (hSF y hy).2.1 (hSF y hy).2.2.2.1
  have hvcw:∀y,vc.ownBlock=some y→y<w.heap.size:=fun y hy=>h3.row_lt hy
  have hv'w:∀y,vc'.ownBlock=some y→(vc.ownBlock=some y∨w.heap.size≤y)∧y≠b2∧y<w'.heap.size:=fun y hy=>by
   have hlt:=(g3.lt y hy).2
   rcases g4 with h|⟨k,h,h5,h6⟩
   ·rw[h] at hy
    exact ⟨.inl hy,by have:=hvcw y hy;omega,hlt⟩
   ·rw[h] at hy;cases hy
    exact ⟨.inr h5,h6,hlt⟩
  have hbs2:bs.length=ks.es.length:=hbl
  have hrow2:zaP (skP (zbz e t ks)) (Za i b2 bs)=Za i (eD e++ [ptB b2]) (zaP (skP ks) bs):=by
   rw[zdf,zdf,zfT,zfT,(ziV e t hf).1,←hi,zgV,zjs _ (by simp [hbl])]
  have hts:(skP (zbz e t ks)).ts=Za i (stP t) (skP ks).ts:=by rw[zej,zej,(ziV e t hf).2,←hi,zgV]
  have hF'w:∀y∈F',y=b2∨w'.heap.size≤y:=fun y hy=>by simpa using k5 y hy
  have hFlt:∀y∈FS.flatten,y<w.heap.size:=fun y hy=>hFw y (by simp [hy])
  refine ⟨b::(vm.ownBlock.toList++(vc'.ownBlock.toList++(Za i F' FS).flatten)),S',?_,k2,fun y hy=>?_,fun y hy=>⟨(k4 y hy).1,?_⟩,fun y hy=>?_,?_⟩
  ·simp only [stP,HasS]
   refine ⟨vm,vc',T,Za i b2 bs,(Za i F' FS).flatten,(k6.block b (by omega) (by simp;omega)).trans g1,h2.frame (zu _) (fun y hy=>stay y (h2.row_lt hy) (fun h=>n1.1 (h▸hy)) fun h=>n2 y hy y (.inl h) rfl) (fun y hy=>sameS y hy.1) (fun _ h=>h) k2,?_,(zeX _ _ _).2 ⟨_,?_,rfl⟩,rfl,?_,h6,?_⟩
   ·rw[hrow2,zgp]
    refine ⟨_,?_,fun _ h=>h,Elems.ins (R:=RDs prog w2 fun x=>S' x∧vc'.ownBlock≠some x) (size:=5) (xs:=zaP (skP ks) bs) (cs:=cs) (y:=eD e++ [ptB b2]) (ys:=[u0,u1,u2,u3]++ [.pointer (some ⟨b2,0,none⟩)]) (hel.imp fun x c r=>(zu _).frame r (fun y hy=>sameS y hy.1) fun y hy=>⟨k2 y hy.1,fun h=>?_⟩) i ?_ rfl⟩
    ·rw[zan,hrl]
     refine ⟨g3.1,?_⟩
     rcases g3.2 with h0|⟨g,cap,cur,q1,q2,q3,q4⟩
     ·exact .inl h0
     ·have hg:=hv'w g (by rw[q1];rfl)
      exact .inr ⟨g,cap,cur,q1,q2,(k6.block g hg.2.2 (by simp;exact hg.2.1)).trans q3,q4⟩
    ·have hs:=hSF y hy.1
     rcases (hv'w y h).1 with h|h
     ·exact hs.2.2.2.1 h
     ·omega
    ·refine All2.append ((zu _).frame hud sameS fun y hy=>⟨k2 y hy,fun h=>?_⟩) (.cons (.v rfl) .nil)
     have hs:=hSF y hy
     rcases (hv'w y h).1 with h|h
     ·exact hs.2.2.2.1 h
     ·omega
   ·rw[hts]
    refine (hk.frame sameS (fun y hy=>stay y (hFlt y hy) (fun h=>n1.2.2 (h▸hy)) fun h=>n3 y h y hy rfl) k2).ins (by rw[zej,List.length_map,PK.ss_length];exact hile) k1
   ·have e2:∀X:List Nat,b::(vm.ownBlock.toList++(vc'.ownBlock.toList++X))=(b::(vm.ownBlock.toList++vc'.ownBlock.toList))++X:=fun X=>by simp
    rw[e2]
    refine zpY ?_ (HasS.nodup _ k1) fun y hy hm=>?_
    ·rw[←e2,List.nodup_cons,List.nodup_append]
     simp only [List.mem_append,Option.mem_toList,not_or]
     refine ⟨⟨n1.1,fun h=>?_,n1.2.2⟩,nvm,List.nodup_append.2 ⟨by cases vc'.ownBlock<;>simp,nG,fun x hx y hy e=>?_⟩,fun x hx y hy e=>?_⟩
     ·rcases (hv'w b h).1 with h|h
      ·exact hvb h
      ·omega
     ·subst e
      rw[Option.mem_toList] at hx
      rcases (hv'w x hx).1 with h|h
      ·exact n3 x h x hy rfl
      ·have:=hFlt x hy;omega
     ·subst e
      rcases hy with hy|hy
      ·rcases (hv'w x hy).1 with h|h
       ·exact n2 x hx x (.inl h) rfl
       ·have:=h2.row_lt hx;omega
      ·exact n2 x hx x (.inr hy) rfl
    ·simp only [List.cons_append,List.mem_cons,List.mem_append,Option.mem_toList] at hm
     have hy':=hF'w y hy
     rcases hm with h|(h|h)|h
     ·omega
     ·have:=h2.row_lt h;omega
     ·have:=hv'w y h;omega
     ·have:=hFlt y h;omega
   ·rw[hrow2]
    refine ⟨by rw[zan,hrl,zr4];omega,fun x hx=>?_⟩
    rcases zc2.1 hx with rfl|hx
    ·rw[zgp]
     obtain ⟨d0,d1,d2,d3,hd,_⟩:=zby (z9 e)
     show (leD (z9 e)++ [ptB b2]).length=5
     rw[hd];rfl
    ·exact h7.2 x hx
  ·rcases k3 y hy with h|h|h
   ·exact .inl h
   ·exact .inr (.inr (by simp at h;omega))
   ·exact .inr (.inr (by omega))
  ·have k4y:=(k4 y hy).2
   have hb2F:b2∈F':=HasS.mem k1
   have hne:y≠b2:=fun h=>k4y (h▸hb2F)
   have hc:S y∨w'.heap.size≤y:=by
    rcases k3 y hy with h|h|h
    ·exact .inl h
    ·exact absurd (by simpa using h) hne
    ·exact .inr h
   intro hm
   simp only [List.mem_cons,List.mem_append,Option.mem_toList] at hm
   rcases hm with h|h|h|h
   ·rcases hc with hc|hc
    ·exact (hSF y hc).2.1 h
    ·omega
   ·rcases hc with hc|hc
    ·exact (hSF y hc).2.2.1 h
    ·have:=h2.row_lt h;omega
   ·rcases hc with hc|hc
    ·rcases (hv'w y h).1 with h|h
     ·exact (hSF y hc).2.2.2.1 h
     ·have:=(hSF y hc).1;omega
    ·have:=hv'w y h;omega
   ·obtain ⟨G,hG,hyG⟩:=List.mem_flatten.1 h
    rcases zc2.1 hG with rfl|hG
    ·exact k4y hyG
    ·have hyf:y∈FS.flatten:=List.mem_flatten.2 ⟨G,hG,hyG⟩
     rcases hc with hc|hc
     ·exact (hSF y hc).2.2.2.2 hyf
     ·have:=hFlt y hyf;omega
  ·simp only [List.mem_cons,List.mem_append,Option.mem_toList] at hy ⊢
   rcases hy with h|h|h|h
   ·exact .inl (.inl h)
   ·exact .inl (.inr (.inl h))
   ·rcases (hv'w y h).1 with h|h
    ·exact .inl (.inr (.inr (.inl h)))
    ·exact .inr h
   ·obtain ⟨G,hG,hyG⟩:=List.mem_flatten.1 h
    rcases zc2.1 hG with rfl|hG
    ·have:=hF'w y hyG
     exact .inr (by omega)
    ·exact .inl (.inr (.inr (.inr (List.mem_flatten.2 ⟨G,hG,hyG⟩))))
  ·refine ⟨k6.os.trans hGE.os,k6.tape.trans hGE.tape,k6.output.trans hGE.output,by omega,fun y hy hn=>?_⟩
   exact (k6.block y (by omega) (by simp;omega)).trans (hGE.block y hy hn)
end Go.Smd
end
