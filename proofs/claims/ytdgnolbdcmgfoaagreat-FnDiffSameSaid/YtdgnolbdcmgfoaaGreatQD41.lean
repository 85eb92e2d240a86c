/- Part 41. -/
import Derived.Test.YtdgnolbdcmgfoaaGreatQD40
set_option linter.unusedVariables false
set_option linter.unusedSimpArgs false
set_option maxRecDepth 100000
set_option maxHeartbeats 8000000
section
namespace Go.Smd
open Go.RowKit Go.Proofs Go.Proofs.Tryz
theorem ACalls.pre1a {P:Program}{f:FuncId}{xs ys:List D}{xa:List Av}{R:Av→Prop}(h:ACalls P f (.c (.d (.pt xs))::xa) R):ACalls P f (.c (.d (.pt (xs++ys)))::xa) R:=h.args fun w S vs ha=>by
 obtain ⟨v,vs,rfl,h1,ha⟩:=ha.inv
 exact .cons (RepD.pre (show RepD P w S _ v from h1)) ha
theorem zsu (p q:LE)(hp:ZR p)(hq:ZR q):ACalls prog 202 [leA p,leA q] (fun r=>r=aI (ZM p q)):=by
 have h:=zct p q hp hq
 have four:∀e:LE,∃e0 e1 e2 e3,leA e= .agg [.d e0,.d e1,.d e2,.d e3]:=fun e=>by cases e<;>exact ⟨_,_,_,_,rfl⟩
 obtain ⟨p0,p1,p2,p3,hp'⟩:=four p
 obtain ⟨q0,q1,q2,q3,hq'⟩:=four q
 rw[hp',hq'] at h ⊢
 refine zf [] func202 (by kernel_rfl) rfl ntmps202 results202 (Nat.le_of_ble_eq_true (by kernel_rfl)) ?_;intro hok w0 S0
 clear hok
 (repeat' (first|(with_reducible first|refine zj (fun _=>?_) (fun _=>?_)|refine zi (fun _=>?_) (fun _=>?_)|refine zl (h) (by first|rfl|(simp -dsimp;done)) ?_|refine zk zb (by kernel_rfl) ?_|exact za rfl)|(simp -dsimp)));(all_goals try with_reducible refine za ?_)
theorem zuj (A:List EV)(e:EV)(hl:A.length*32≤140737488351232)(hA:∀x∈A,GoodE x)(sA:zaQ A)(he:GoodE e):
  ACalls prog 158 [.c (.d (.pt [.sl tPE (A.map eD)])),leA (zX e)] (fun r=>r=aV (.bool (zah e A))):=by
 have hB:=zld sA hA he
 have hI:=znA hA he
 have hm:zah e A=true↔znt (A.map zX) (zX e) (lbE e A):=by
  rw[hI,zbN,zmv he.o (fun x hx=>(hA x hx).o) sA]
 have hb:=zgA 202 (A.map zX) (zX e) (lbE e A) (zah e A) (by simpa using hl) (fun x hx=>zsu x _ (zlm hA x hx) he.f.le) hB hm
 rw[zoF] at hb
 obtain ⟨e0,e1,e2,e3,he1,he'⟩:=zbl (zX e)
 rw[he'] at hb ⊢
 generalize A.map eD=X at hb ⊢
 generalize zah e A=b at hb ⊢
 refine zf [] func158 (by kernel_rfl) rfl ntmps158 results158 (Nat.le_of_ble_eq_true (by kernel_rfl)) ?_;intro hok w0 S0
 clear hok
 (repeat' (first|(with_reducible first|refine zj (fun _=>?_) (fun _=>?_)|refine zi (fun _=>?_) (fun _=>?_)|refine zk zb (by kernel_rfl) ?_|exact za rfl)|(simp -dsimp)));(all_goals try with_reducible refine za ?_)
 refine zcB ?_
 refine zfo zb [0,1,2,3,4,5,6,7,8,9,10] [(8,?m8),(9,?m9),(10,?m10),(11,?m11),(12,?m12),(13,?m13),(7,?m7),(14,?m14),(15,?m15),(5,?m5),(6,?m6)] [(5,?o5)] ?hok ?hst ?hk
 case' hst=>refine ⟨?hv0,⟨_,rfl,?he0⟩,?hv1⟩
 case hv0=>
  iterate 5 refine ⟨.inr ⟨_,_,rfl,rfl,by simp -dsimp [ze]<;>with_reducible rfl⟩,?_⟩
  iterate 6 refine ⟨.inl (by kernel_rfl),?_⟩
  exact trivial
 case' he0=>(with_reducible apply zri (d:=13) (hR:=hb));(case hp=>rfl);(case hd=>rfl);(case hdk=>rfl);(case hc=>simp -dsimp [ze]<;>(first|done|rfl|exact ⟨rfl,rfl⟩|exact ⟨rfl,rfl,rfl⟩));(case ha=>simp -dsimp [ze]);(case hpl=>rfl);(case hoo=>rfl);(case hv=>simp -dsimp [ze]<;>with_reducible rfl)
 case hv1=>
  iterate 6 refine ⟨.inl (by kernel_rfl),?_⟩
  iterate 5 refine ⟨.inr ⟨_,_,rfl,rfl,by simp -dsimp [ze]<;>with_reducible rfl⟩,?_⟩
  exact trivial
 case hok=>kernel_rfl
 refine ⟨rfl,?_⟩
 (repeat' (first|(with_reducible first|refine zj (fun _=>?_) (fun _=>?_)|refine zi (fun _=>?_) (fun _=>?_)|refine zk zb (by kernel_rfl) ?_|exact za rfl)|(simp -dsimp)));(all_goals try with_reducible refine za ?_)
def PK.drop:Nat→PK→PK
 |0,k=>k
 |_+1,.nil=>.nil
 |i+1,.cons _ _ r=>r.drop i
theorem PK.drop_cons:∀{k:PK} {i:Nat} (h:i<k.es.length) (h':i<k.ss.length),k.drop i= .cons k.es[i] k.ss[i] (k.drop (i+1))
 | .nil,i,h,_=>by simp [PK.es] at h
 | .cons e s r,0,_,_=>by simp only [PK.drop,PK.es,PK.ss,List.getElem_cons_zero]
 | .cons e s r,i+1,h,h'=>by
  have:=PK.drop_cons (k:=r) (i:=i) (by simpa [PK.es] using h) (by simpa [PK.ss] using h')
  simp only [PK.es,PK.ss,List.getElem_cons_succ]
  exact this
theorem PK.drop_all:∀{k:PK} {i:Nat},k.es.length≤i→k.drop i= .nil
 | .nil,0,_=>rfl
 | .nil,i+1,_=>rfl
 | .cons e s r,0,h=>by simp [PK.es] at h
 | .cons e s r,i+1,h=>by
  simp only [PK.es,List.length_cons] at h
  exact PK.drop_all (k:=r) (by omega)
theorem zmI {e:EV}(he:OE e):∀{k:PK},(∀x∈k.es,OE x)→zaQ k.es→∀(j:Nat) (h:j<k.es.length) (h':j<k.ss.length),zw k.es[j] e=0→Zp e k=some k.ss[j]
 | .nil,_,_,j,h,_,_=>by simp [PK.es] at h
 | .cons x s r,ho,hs,0,_,_,h0=>by
  simp only [PK.es,List.getElem_cons_zero] at h0
  simp only [Zp,PK.ss,List.getElem_cons_zero];rw[if_pos h0]
 | .cons x s r,ho,hs,j+1,h,h',h0=>by
  simp only [PK.es] at hs
  have hs:=List.pairwise_cons.1 hs
  have h1:j<r.es.length:=by simpa [PK.es] using h
  have h2:j<r.ss.length:=by simpa [PK.ss] using h'
  simp only [PK.es,List.getElem_cons_succ] at h0
  have hm:=List.getElem_mem h1
  have hx:OE x:=ho x (by simp [PK.es])
  have hj:OE r.es[j]:=ho _ (by simp [PK.es])
  have k1:=hs.1 _ hm
  have k2:zw x e<0:=zo.lt_le hx hj he k1 (by omega)
  simp only [Zp,PK.ss,List.getElem_cons_succ]
  rw[if_neg (by omega)]
  exact zmI he (fun y hy=>ho y (by simp [PK.es,hy])) hs.2 j h1 h2 h0
theorem zmJ {e:EV}{k:PK}{j:Nat}(h1:∀(a:Nat) (h:a<k.es.length),a<j→zw k.es[a] e<0)(h2:∀(a:Nat) (h:a<k.es.length),j≤a→0<zw k.es[a] e):Zp e k=none:=by
 rw[zej,←Bool.not_eq_true,zbN]
 rintro ⟨x,hx,h0⟩
 obtain ⟨a,ha,rfl⟩:=List.getElem_of_mem hx
 rcases Nat.lt_or_ge a j with h|h
 ·have:=h1 a ha h;omega
 ·have:=h2 a ha h;omega
def MergeI (A B:List EV)(i j:Nat):Prop:=∀(a b:Nat) (ha:a<B.length) (hb:b<A.length),a<j→i≤b→zw B[a] A[b]<0
theorem MergeI.zero (A B:List EV):MergeI A B 0 0:=fun a b _ _ h=>by omega
section
variable {A B:List EV} {i j:Nat}
theorem MergeI.left (h:MergeI A B i j):MergeI A B (i+1) j:=fun a b ha hb h1 h2=>h a b ha hb h1 (by omega)
theorem zoG {A:List EV}(oA:∀x∈A,OE x)(sA:zaQ A){i b:Nat}(hi:i<A.length)(hb:b<A.length)(h:i≤b):zw A[i] A[b]≤0:=by
 rcases Nat.lt_or_eq_of_le h with h|rfl
 ·exact Int.le_of_lt (List.pairwise_iff_getElem.1 sA i b hi hb h)
 ·rw[zo.refl (oA _ (List.getElem_mem hi))];omega
theorem MergeI.right (h:MergeI A B i j)(oA:∀x∈A,OE x)(oB:∀x∈B,OE x)(sA:zaQ A)(hi:i<A.length)(hj:j<B.length)(h0:zw B[j] A[i]<0):MergeI A B i (j+1):=fun a b ha hb h1 h2=>by
 rcases Nat.lt_or_ge a j with h3|h3
 ·exact h a b ha hb h3 h2
 ·have e:a=j:=by omega
  subst e
  exact zo.lt_le (oB _ (List.getElem_mem ha)) (oA _ (List.getElem_mem hi)) (oA _ (List.getElem_mem hb)) h0 (zoG oA sA hi hb h2)
theorem MergeI.both (h:MergeI A B i j)(oA:∀x∈A,OE x)(oB:∀x∈B,OE x)(sA:zaQ A)(hi:i<A.length)(hj:j<B.length)(h0:zw B[j] A[i]=0):MergeI A B (i+1) (j+1):=fun a b ha hb h1 h2=>by
 rcases Nat.lt_or_ge a j with h3|h3
 ·exact h a b ha hb h3 (by omega)
 ·have e:a=j:=by omega
  subst e
  have k:=List.pairwise_iff_getElem.1 sA i b hi hb (by omega)
  exact zo.le_lt (oB _ (List.getElem_mem ha)) (oA _ (List.getElem_mem hi)) (oA _ (List.getElem_mem hb)) (by omega) k
end
theorem MergeI.no {A:List EV}{k:PK}{i j:Nat}(h:MergeI A k.es i j)(oA:∀x∈A,OE x)(oB:∀x∈k.es,OE x)(sB:zaQ k.es)(hi:i<A.length)(h0:∀hj:j<k.es.length,zw A[i] k.es[j]<0):Zp A[i] k=none:=by
 refine zmJ (j:=j) (fun a ha haj=>h a i ha hi haj (Nat.le_refl _)) fun a ha haj=>?_
 have hj:j<k.es.length:=by omega
 have k1:=zo.lt_le (oA _ (List.getElem_mem hi)) (oB _ (List.getElem_mem hj)) (oB _ (List.getElem_mem ha)) (h0 hj) (zoG oB sB hj ha haj)
 have:=zo.anti A[i] k.es[a] (oA _ (List.getElem_mem hi)) (oB _ (List.getElem_mem ha))
 omega
theorem zuM {o:SOp}{t:PS}{k:PK}{i:Nat}(h:i<k.es.length)(h':i<k.ss.length):pkD (opK o (k.drop i) t)=match opG o t k.es[i] k.ss[i] with|none=>pkD (opK o (k.drop (i+1)) t)|some s'=>(eD k.es[i]++ [.pt (psD s')])::pkD (opK o (k.drop (i+1)) t):=by
 rw[PK.drop_cons h h',zsq]
 cases opG o t k.es[i] k.ss[i] with
 |none=>rfl
 |some s'=>exact zeK _ _ _
end Go.Smd
end
