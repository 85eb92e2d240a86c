/- Part 36 of the proof: Kd Ke Kf Kg Kh. -/
import Derived.Test.YtdgnolbdcmgfoaaGreatQO35
import Derived.Test.YtdgnolbdcmgfoaaGreatQO13
set_option linter.unusedVariables false
set_option linter.unusedSimpArgs false
set_option maxRecDepth 100000
set_option maxHeartbeats 8000000
section
namespace Go.Smd
open Go.RowKit
def IsPin (v:Value)(k:Nat):Prop:=(v= .slice none 0 0∧k=0)∨∃g cap,v= .slice (some ⟨g,0,none⟩) k cap∧k≤cap
theorem IsPin.ok {v:Value}{k:Nat}(h:IsPin v k):Zj v=true:=by rcases h with ⟨rfl,_⟩|⟨g,cap,rfl,_⟩<;>rfl
theorem Build.isPin {α:Type}{R:World→(Nat→Prop)→α→List Value→Prop}{e size:Nat}{S T:Nat→Prop}{w:World}{v:Value}{xs:List α}(h:Build R e size S T w v xs):IsPin v xs.length:=by
 obtain ⟨cs,ho,_⟩:=h
 rcases ho.2 with ⟨rfl,h0⟩|⟨g,cap,cur,rfl,_,_,hn,_⟩
 ·exact .inl ⟨rfl,h0⟩
 ·exact .inr ⟨g,cap,rfl,hn⟩
def zjv (q:Nat)(v:Value):Av→Av
 | .c (.gs i k)=>if i=q then .c (.d (.v v)) else .c (.gs i k)
 |x=>x
theorem zoT {q:Nat}{v:Value}{x:Av}(h:q∉x.ids):zjv q v x=x:=by
 unfold zjv
 split
 ·next i k=>rw[if_neg fun e=>h (by simp [Av.ids,Cl.ids,e])]
 ·rfl
def zad (q:Nat)(o:Ow):List (Nat×Ow)→List (Nat×Ow)
 | []=>[]
 |(k,x)::l=>if k=q then (k,o)::zad q o l else (k,x)::zad q o l
theorem zaG (q:Nat)(o:Ow):∀(l:List (Nat×Ow)) (i:Nat),ze (zad q o l) i=if i=q then (ze l q).map (fun _=>o) else ze l i
 | [],i=>by simp [zad,ze]
 |(k,x)::l,i=>by
  have ih:=zaG q o l i
  simp only [zad]
  by_cases e:k=q
  ·subst e
   simp only [if_true,ze]
   by_cases e2:k=i
   ·subst e2;simp
   ·rw[if_neg e2,if_neg e2,ih]
    simp [Ne.symm e2]
  ·simp only [e,if_false,ze]
   by_cases e2:k=i
   ·subst e2;simp [e]
   ·simp only [e2,if_false]
    exact ih
section
variable {P:Program} {N:Nat} {w0:World} {S0:Env} {β:Nat→Value} {σ:St} {a:Act} {w:World}
theorem zhG {h h':Nat→Option Ow}(k:∀i o b,h' i=some o→occ (β i) o b→∃o',h i=some o'∧occ (β i) o' b):∀b,Sd w0 S0 β h w b→Sd w0 S0 β h' w b:=fun b hb=>⟨hb.1,hb.2.1,fun i o hi hc=>by
 obtain ⟨o',h1,h2⟩:=k i o b hi hc
 exact hb.2.2 i o' h1 h2⟩
theorem Sim.swapPin {own:List (Nat×Ow)}(s:Sim P N w0 S0 β ⟨[],own⟩ a w){q n:Nat}{E:TypeId}{xs:List (List D)}(hq:ze own q=some (.arr n E xs))(hids:∀i o,ze own i=some o→q∉o.ids)(hk:∀o0,S0.h0 q=some o0→zaz o0 (S0.β0 q) (.clo (.pin (β q) E xs) []) (β q)):
  Sim P N w0 S0 β ⟨[],zad q (.clo (.pin (β q) E xs) []) own⟩ a w:=by
 have s1:=s.arrPin (q:=q) (d:=q) (v:=β q) hq rfl (.inl rfl) (fun t=>List.not_mem_nil) hids hk
 have e:(fun i=>if i=q then β q else β i)=β:=funext fun i=>by by_cases e:i=q<;>simp [e]
 rw[e] at s1
 refine Sim.eqv ?_ s1
 refine ⟨fun _=>rfl,?_⟩
 funext i
 rw[zq]
 simp only [zep]
 show _=ze (zad q _ own) i
 rw[zaG,hq]
 by_cases e:i=q
 ·simp [e]
 ·simp [e]<;>rfl
theorem Sim.swapArr {own:List (Nat×Ow)}(s:Sim P N w0 S0 β ⟨[],own⟩ a w){q n:Nat}{v:Value}{E:TypeId}{xs:List (List D)}(hq:ze own q=some (.clo (.pin v E xs) []))(hids:∀i o,ze own i=some o→q∉o.ids)(hk:∀o0,S0.h0 q=some o0→zaz o0 (S0.β0 q) (.arr n E xs) v):
  Sim P N w0 S0 β ⟨[],zad q (.arr n E xs) own⟩ a w:=by
 have s1:=s.pinArr (q:=q) (d:=q) (n:=n) hq (.inl rfl) (fun t=>List.not_mem_nil) hids hk
 have hv:=s.pinVal hq
 have e:(fun i=>if i=q then v else β i)=β:=funext fun i=>by
  by_cases e:i=q
  ·simp [e,hv]
  ·simp [e]
 rw[e] at s1
 refine Sim.eqv ?_ s1
 refine ⟨fun _=>rfl,?_⟩
 funext i
 rw[zq]
 simp only [zep]
 show _=ze (zad q _ own) i
 rw[zaG,hq]
 by_cases e:i=q
 ·simp [e]
 ·simp [e]<;>rfl
end
theorem zem (q:Nat)(o o':Ow):∀l:List (Nat×Ow),zad q o (zad q o' l)=zad q o l
 | []=>rfl
 |(k,x)::l=>by
  simp only [zad]
  by_cases e:k=q
  ·simp only [e,if_true,zad];rw[zem q o o' l]
  ·simp only [e,if_false,zad];rw[zem q o o' l]
theorem AProc.unpin {P:Program}{f:FuncId}{args:List Av}{own:List (Nat×Ow)}{R:Av→List (Nat×Ow)→Prop}{q n:Nat}{E:TypeId}{xs:List (List D)}(hq:ze own q=some (.arr n E xs))(hargs:∀x∈args,x= .c (.gs q n)∨q∉x.ids)(hids:∀i o,ze own i=some o→q∉o.ids)
  (h:∀v,IsPin v xs.length→AProc P f (args.map (zjv q v)) (zad q (.clo (.pin v E xs) []) own) fun r own'=>∃own2,own'=zad q (.clo (.pin v E xs) []) own2∧zad q (.arr n E xs) own2=own2∧R r own2∧(ze own2 q).isSome=true∧(∀i o,ze own2 i=some o→q∉o.ids)∧q∉r.ids):
  AProc P f args own R:=
 ⟨(h (.slice (some ⟨0,0,none⟩) xs.length xs.length) (.inr ⟨0,_,rfl,Nat.le_refl _⟩)).1,fun w E0 β vs s ha=>by
  have hB:=(s.own q _ hq).1
  have hv:=hB.isPin
  obtain ⟨E',hE'⟩:∃E':Env,E'=⟨E0.S,E0.K,fun i=>if i=q then none else E0.h0 i,E0.β0⟩:=⟨_,rfl⟩
  have s0:Sim P 0 w E' β ⟨[],own⟩ zhV w:=by
   rw[hE']
   exact ⟨s.ext,s.hK,fun i o0 hi=>by
    by_cases e:i=q
    ·simp [e] at hi
    ·simp only [e,if_false] at hi;exact s.kept i o0 hi,s.inj,s.new,s.own,s.tmp,s.sz,s.dfr⟩
  have hn0:E'.h0 q=none:=by rw[hE'];simp
  have s1:=s0.swapPin hq hids (fun o0 h=>by rw[hn0] at h;cases h)
  have hSd:∀β h w' b,Sd w E' β h w' b↔Sd w E0 β h w' b:=fun β h w' b=>by rw[hE'];exact Iff.rfl
  have hne:∀(l:List (Nat×Ow)) (o:Ow) (id:Nat),id≠q→ze (zad q o l) id=ze l id:=fun l o id e=>by rw[zaG,if_neg e]
  have hsw:∀b,Sd w E0 β (ze own) w b→Sd w E' β (ze (zad q (.clo (.pin (β q) E xs) []) own)) w b:=fun b hb=>(hSd _ _ _ _).2 (zhG (fun i o b hi hc=>by
   by_cases e:i=q
   ·subst e
    rw[zaG,if_pos rfl,hq] at hi
    cases hi
    exact ⟨_,hq,zac.2 (zcZ.1 hc)⟩
   ·rw[hne _ _ _ e] at hi
    exact ⟨o,hi,hc⟩) b hb)
  have ha':All2 (RepA P (Sd w E' β (ze (zad q (.clo (.pin (β q) E xs) []) own)) w) β (ze (zad q (.clo (.pin (β q) E xs) []) own)) w) (args.map (zjv q (β q))) vs:=by
   refine Z4 ha fun x u hx r=>?_
   rcases hargs x hx with rfl|hx
   ·have r':RepC P (Sd w E0 β (ze own) w) β (ze own) w (.gs q n) u:=r
    obtain ⟨ver,E2,ys,h1,_,h3,_⟩:=r'
    rw[hq] at h1;cases h1
    have:zjv q (β q) (.c (.gs q n))= .c (.d (.v (β q))):=by simp [zjv]
    rw[this,h3 rfl]
    exact RepD.v hv.ok
   ·rw[zoT hx]
    exact r.congr hsw fun id hid=>⟨hne _ _ _ fun e=>hx (e▸hid),rfl⟩
  refine ((h _ hv).2 w E' β vs s1 ha').mono ?_
  rintro en w' ⟨u,r,β',own',h1,⟨own2,rfl,h2,h3,h4,h5,h6⟩,s',hr⟩
  obtain ⟨o2,ho2⟩:=Option.isSome_iff_exists.1 h4
  have hp:ze (zad q (.clo (.pin (β q) E xs) []) own2) q=some (.clo (.pin (β q) E xs) []):=by rw[zaG,if_pos rfl,ho2];rfl
  have hid2:∀i o,ze (zad q (.clo (.pin (β q) E xs) []) own2) i=some o→q∉o.ids:=fun i o hi=>by
   by_cases e:i=q
   ·subst e;rw[hp] at hi;cases hi;exact List.not_mem_nil
   ·rw[hne _ _ _ e] at hi;exact h5 i o hi
  have hval:β' q=β q:=s'.pinVal hp
  have s3:=s'.swapArr (n:=n) hp hid2 (fun o0 h=>by rw[hn0] at h;cases h)
  rw[zem,h2] at s3
  have hq2:ze own2 q=some (.arr n E xs):=by rw[←h2,zaG,if_pos rfl,ho2];rfl
  refine ⟨u,r,β',own2,h1,h3,⟨by rw[hE'] at s3;exact s3.ext,?_,fun i o0 hi=>?_,s3.inj,?_,?_,fun t=>trivial,s3.sz,s3.dfr⟩,?_⟩
  ·exact s.hK
  ·by_cases e:i=q
   ·subst e
    refine ⟨(s.kept i o0 hi).1,fun o ho=>?_⟩
    have ho:ze own2 i=some o:=ho
    rw[hq2] at ho;cases ho
    rw[hval]
    exact (s.kept i o0 hi).2 _ hq
   ·have:=s3.kept i o0 (by rw[hE'];simp [e,hi])
    rw[hE'] at this
    exact this
  ·rw[hE'] at s3;exact s3.new
  ·rw[hE'] at s3;exact s3.own
  ·refine hr.congr (fun b hb=>(hSd _ _ _ _).1 (zhG (fun i o b hi hc=>?_) b hb)) fun id hid=>⟨(hne _ _ _ fun e=>h6 (e▸hid)).symm,rfl⟩
   by_cases e:i=q
   ·subst e
    rw[hq2] at hi;cases hi
    exact ⟨_,hp,zcZ.2 (zac.1 hc)⟩
   ·exact ⟨o,by rw[hne _ _ _ e];exact hi,hc⟩⟩
theorem zi7 {q:Nat}{o:Ow}:∀{l:List (Nat×Ow)},(∀p∈l,p.1=q→p.2=o)→zad q o l=l
 | [],_=>rfl
 |(k,x)::l,h=>by
  have ih:=zi7 (q:=q) (o:=o) (l:=l) fun p hp=>h p (List.mem_cons_of_mem _ hp)
  simp only [zad]
  by_cases e:k=q
  ·have h1:x=o:=h (k,x) (by simp) e
   rw[if_pos e,ih,h1]
  ·rw[if_neg e,ih]
theorem Sim.env {P:Program}{N:Nat}{w0:World}{S0:Env}{β:Nat→Value}{σ:St}{a:Act}{w:World}(s:Sim P N w0 S0 β σ a w){h0:Nat→Option Ow}{β0:Nat→Value}(k:∀id o0,h0 id=some o0→zed≤id∧∀o,σ.h id=some o→zaz o0 (β0 id) o (β id)):Sim P N w0 ⟨S0.S,S0.K,h0,β0⟩ β σ a w:=
 ⟨s.ext,s.hK,k,s.inj,s.new,s.own,s.tmp,s.sz,s.dfr⟩
theorem AProc.pin {P:Program}{f:FuncId}{args:List Av}{own:List (Nat×Ow)}{R:Av→List (Nat×Ow)→Prop}{q n:Nat}{E:TypeId}{xs:List (List D)}(v:Value)(hz:zed≤q)(hq:ze own q=some (.arr n E xs))(hself:∀p∈own,p.1=q→p.2= .arr n E xs)(hargs:∀x∈args,x= .c (.gs q n)∨q∉x.ids)(hids:∀i o,ze own i=some o→q∉o.ids)
  (h:AProc P f args own fun r own2=>R r own2∧ze own2 q=some (.arr n E xs)∧(∀i o,ze own2 i=some o→q∉o.ids)∧q∉r.ids):
  AProc P f (args.map (zjv q v)) (zad q (.clo (.pin v E xs) []) own) fun r own'=>∃own2,R r own2∧own'=zad q (.clo (.pin v E xs) []) own2:=
 ⟨h.1,fun w E0 β vs s ha=>by
  have hp:ze (zad q (.clo (.pin v E xs) []) own) q=some (.clo (.pin v E xs) []):=by rw[zaG,if_pos rfl,hq];rfl
  have hval:β q=v:=s.pinVal hp
  have hne:∀(l:List (Nat×Ow)) (o:Ow) (id:Nat),id≠q→ze (zad q o l) id=ze l id:=fun l o id e=>by rw[zaG,if_neg e]
  have hid1:∀i o,ze (zad q (.clo (.pin v E xs) []) own) i=some o→q∉o.ids:=fun i o hi=>by
   by_cases e:i=q
   ·subst e;rw[hp] at hi;cases hi;exact List.not_mem_nil
   ·rw[hne _ _ _ e] at hi;exact hids i o hi
  have s0:=s.env (h0:=fun i=>if i=q then none else E0.h0 i) (β0:=E0.β0) fun i o0 hi=>by
   by_cases e:i=q
   ·simp [e] at hi
   ·simp only [e,if_false] at hi;exact s.kept i o0 hi
  have s1:=s0.swapArr (n:=n) hp hid1 fun o0 h=>by simp at h
  rw[zem,zi7 hself] at s1
  have s2:=s1.env (h0:=fun i=>if i=q then some (.arr n E xs) else E0.h0 i) (β0:=fun i=>if i=q then v else E0.β0 i) fun i o0 hi=>by
   by_cases e:i=q
   ·subst e
    simp only [if_true] at hi ⊢
    cases hi
    refine ⟨hz,fun o ho=>?_⟩
    have ho:ze own i=some o:=ho
    rw[hq] at ho;cases ho
    rw[hval];exact zfB _ _
   ·simp only [e,if_false] at hi ⊢
    have:=s1.kept i o0 (by simp [e,hi])
    exact this
  have ha':All2 (RepA P (Sd w E0 β (ze own) w) β (ze own) w) args vs:=All2.of (by have:=ha.length;simpa using this) fun i x u hx hu=>by
   obtain ⟨u',hu',r⟩:=ha.at (i:=i) (x:=zjv q v x) (by rw[List.getElem?_map,hx];rfl)
   rw[hu] at hu';cases hu'
   rcases hargs x (List.mem_of_getElem? hx) with rfl|hx'
   ·have e1:zjv q v (.c (.gs q n))= .c (.d (.v v)):=by simp [zjv]
    rw[e1] at r
    have r':RepD P w (Sd w E0 β (ze (zad q (.clo (.pin v E xs) []) own)) w) (.v v) u:=r
    cases r' with
    |v hok=>
     refine (show RepC P (Sd w E0 β (ze own) w) β (ze own) w (.gs q n) v from ⟨n,E,xs,hq,Nat.le_refl _,fun _=>hval.symm,?_⟩)
     exact RepD.one (P:=P) (w:=w) (S:=fun _=>True) (RepD.v hok)
   ·rw[zoT hx'] at r
    refine r.congr (zhG fun i o b hi hc=>?_) fun id hid=>⟨(hne _ _ _ fun e=>hx' (e▸hid)).symm,rfl⟩
    by_cases e:i=q
    ·subst e
     rw[hq] at hi;cases hi
     exact ⟨_,hp,zcZ.2 (zac.1 hc)⟩
    ·exact ⟨o,by rw[hne _ _ _ e];exact hi,hc⟩
  refine (h.2 w _ β vs s2 ha').mono ?_
  rintro en w' ⟨u,r,β',own2,h1,⟨h2,h3,h4,h5⟩,s',hr⟩
  have hval':β' q=v:=by
   have:=(s'.kept q (.arr n E xs) (by simp)).2 _ h3
   simp only [if_true] at this
   exact this.2 rfl
  have s3:=s'.env (h0:=fun i=>if i=q then none else E0.h0 i) (β0:=E0.β0) fun i o0 hi=>by
   by_cases e:i=q
   ·simp [e] at hi
   ·simp only [e,if_false] at hi
    have:=s'.kept i o0 (by simp [e,hi])
    simp only [e,if_false] at this
    exact this
  have s4:=s3.swapPin h3 h4 fun o0 h=>by simp at h
  rw[hval'] at s4
  have hp2:ze (zad q (.clo (.pin v E xs) []) own2) q=some (.clo (.pin v E xs) []):=by rw[zaG,if_pos rfl,h3];rfl
  have s5:=s4.env (h0:=E0.h0) (β0:=E0.β0) fun i o0 hi=>by
   by_cases e:i=q
   ·subst e
    refine ⟨(s.kept i o0 hi).1,fun o ho=>?_⟩
    have ho:ze (zad i (.clo (.pin v E xs) []) own2) i=some o:=ho
    rw[hp2] at ho;cases ho
    have:=(s.kept i o0 hi).2 _ hp
    rw[hval] at this
    rw[hval'];exact this
   ·exact s4.kept i o0 (by simp [e,hi])
  refine ⟨u,r,β',_,h1,⟨own2,h2,rfl⟩,s5,?_⟩
  refine hr.congr (zhG fun i o b hi hc=>?_) fun id hid=>⟨hne _ _ _ fun e=>h5 (e▸hid),rfl⟩
  by_cases e:i=q
  ·subst e
   rw[hp2] at hi;cases hi
   exact ⟨_,h3,zac.2 (zcZ.1 hc)⟩
  ·exact ⟨o,by rw[←hne _ _ _ e];exact hi,hc⟩⟩
section
variable {P:Program} {N:Nat}
theorem zp4 (ad:Addr)(n i:Nat):(ad.add (0*n)).add i=ad.add i:=by
 unfold Addr.add;simp
theorem Sim.rowIn {w0:World}{S0:Env}{β:Nat→Value}{σ:St}{a:Act}{w:World}(s:Sim P N w0 S0 β σ a w){r ver E:Nat}{row:List D}{u:Value}(hE:P.appOk E=true)(hr:σ.h r=some (.arr ver E [row]))(hu:RepC P (Sd w0 S0 β σ.h w) β σ.h w (.gs r ver) u):
  ∃ad c ds,u= .slice (some ad) 1 c∧RDs P w (Sd w0 S0 β σ.h w) row ds∧row.length=P.cellsOf E∧∀j x,ds[j]? =some x→w.cell? (ad.add j)=some x:=by
 obtain ⟨z,hi,hz,hp,hbp⟩:=zcl hE
 obtain ⟨hB,_,hlen⟩:=s.own r _ hr
 obtain ⟨ver',E',xs',h1,_,h3,_⟩:=hu
 rw[hr] at h1;cases h1
 have h3:=h3 rfl
 obtain ⟨A,c,hs,_,hrow⟩:=hB.done (zu P) hp
 obtain ⟨ad,cs,hA,_,hR,hl,hc⟩:=hrow 0 row rfl
 subst hA
 exact ⟨ad,c,cs,h3.trans hs,hR,hlen row (by simp),fun j x hj=>by rw[←hc j x hj,zp4 ad (P.cellsOf E) j]⟩
theorem zmU {full base:List (Nat×Av)}{own own':List (Nat×Ow)}{o:Oper}{d q r n g m cap:Nat}{x z:Operand}{T E:TypeId}{xs:List (List D)}{row:List D}(n0:n<zed∧n≠d∧ze own n=none)
  (hop:o.op= .call { callee:=.builtin .append,args:= #[x,z],argTypes:= #[T,T] }) (hd:o.dst=some d) (hdk:Zk N o=true) (hdz:d<zed∧ze own d=none) (hT:P.elemT T=some E) (hE:P.appOk E=true) (hn:ZH P ⟨full++base,own⟩ o=none)
  (hx:(St.mk (full++base) own).ev x= .c (.d (.v (.slice (some ⟨g,0,none⟩) m cap)))) (hzv:(St.mk (full++base) own).ev z= .c (.gs r 0)) (hr:ze own r=some (.arr 0 E [row])) (hq:ze own q=some (.clo (.pin (.slice (some ⟨g,0,none⟩) m cap) E xs) []))
  (hm:xs.length=m) (hroom:m+1≤cap) (hb:(m+1)*P.bytesOf E≤140737488351232) (hfree:∀p∈full++base,q∉p.2.ids) (hfo:∀p∈own,q∉p.2.ids)
  (ho:(d,Ow.clo (.pin (.slice (some ⟨g,0,none⟩) (m+1) cap) E (xs++ [row])) [])::zbs (fun i=>decide (i≠q)) own=own') (hv:zi full base d= .c (.d (.v (.slice (some ⟨g,0,none⟩) (m+1) cap)))):Eff P N full base o own own':=fun σ e0 e1 e2 K hK=>by
 subst hm;subst ho
 refine ⟨hdk,?_⟩
 have n1:ZH P σ o=none:=by rw[zcn e1 (τ:=⟨full++base,own⟩) e0];exact hn
 have n2:Zh P σ o=none:=by unfold Zh;rw[n1]
 rw[zfG (by rw[hop];rfl),n2]
 refine .inr (.sem fun N' w0 S0 β a w s hd'=>?_)
 have e0':∀i,σ.h i=ze own i:=fun i=>congrFun e0 i
 have rx:=s.ev x;have rz:=s.ev z
 rw[e1 x (by rw[hop];simp [Op.operands,Call.operands]),hx] at rx
 rw[e1 z (by rw[hop];simp [Op.operands,Call.operands]),hzv] at rz
 have ex:=(ZR rx).1
 obtain ⟨ad,c,ds,ez,hR,hl,hc⟩:=s.rowIn hE (by rw[e0'];exact hr) rz
 have hids:∀t,q∉(σ.tmp t).ids:=fun t=>by
  have hl:∀{l:List (Nat×Av)},(∀p∈l,p∈full++base)→q∉((ze l t).getD .any).ids:=fun {l} hl=>by
   cases h:ze l t with
   |some y=>exact hfree _ (hl _ (Zy h))
   |none=>exact List.not_mem_nil
  rcases e2 t with h|h<;>rw[h]
  ·unfold zi
   have h1:=hl (l:=full) fun p hp=>List.mem_append_left _ hp
   have h2:=hl (l:=base) fun p hp=>List.mem_append_right _ hp
   cases h3:ze full t with
   |some y=>rw[h3] at h1;exact h1
   |none=>exact h2
  ·exact hl fun p hp=>List.mem_append_right _ hp
 obtain ⟨w',β',hrun,s2⟩:=s.pushRoom (q:=q) (d:=d) (n:=n) (ty:=o.type) (c:=c) (ds:=ds) (ad:=ad) hT hE (by rw[e0'];exact hq) hroom hdz.1 (by rw[e0'];exact hdz.2) n0.1 (by rw[e0'];exact n0.2.2) n0.2.1 hb hR hl hc hids (fun i oi hi=>by rw[e0'] at hi;exact hfo _ (Zy hi))
 unfold Oper.wp execOp
 simp only [hop,resolve,invoke,builtin,Sem.run_bind,Sem.run_pure,Result.andThen_ok,List.map_toArray,List.map_cons,List.map_nil,ex,ez,hrun]
 refine ⟨β',((σ.del q).new d (.clo (.pin (.slice (some ⟨g,0,none⟩) (xs.length+1) cap) E (xs++ [row])) [])).put o.dst (.c (.d (.v (.slice (some ⟨g,0,none⟩) (xs.length+1) cap)))),hK _ ?_ fun t=>?_,s2.put (Zl hd') (RepD.v rfl)⟩
 ·rw[ZO,zq]
  funext i
  simp only [zep,ze,e0',zgB]
  by_cases h1:i=d
  ·simp [h1]
  ·simp only [h1,Ne.symm h1,if_false]
   by_cases h2:i=q<;>simp [h2]
 ·rw[Zp,hd]
  by_cases h1:some d=some t
  ·cases h1;rw[if_pos rfl,if_pos rfl,hv]
  ·rw[if_neg h1,if_neg h1];rfl
theorem zmV {full base:List (Nat×Av)}{own own':List (Nat×Ow)}{o:Oper}{d q r n m:Nat}{v:Value}{x z:Operand}{T E:TypeId}{xs:List (List D)}{row:List D}(n0:n<zed∧n≠d∧ze own n=none)
  (hop:o.op= .call { callee:=.builtin .append,args:= #[x,z],argTypes:= #[T,T] }) (hd:o.dst=some d) (hdk:Zk N o=true) (hdz:d<zed∧ze own d=none) (hT:P.elemT T=some E) (hE:P.appOk E=true) (hn:ZH P ⟨full++base,own⟩ o=none)
  (hx:(St.mk (full++base) own).ev x= .c (.d (.v v))) (hzv:(St.mk (full++base) own).ev z= .c (.gs r 0)) (hr:ze own r=some (.arr 0 E [row])) (hq:ze own q=some (.clo (.pin v E xs) []))
  (hm:xs.length=m) (hfull:∀g cap,v= .slice (some ⟨g,0,none⟩) m cap→cap<m+1) (hb:(m+1)*P.bytesOf E≤140737488351232) (hfree:∀p∈full++base,q∉p.2.ids) (hfo:∀p∈own,q∉p.2.ids)
  (ho:(d,Ow.arr 1 E (xs++ [row]))::own=own') (hv:zi full base d= .c (.gs d 1)):Eff P N full base o own own':=fun σ e0 e1 e2 K hK=>by
 subst hm;subst ho
 refine ⟨hdk,?_⟩
 have n1:ZH P σ o=none:=by rw[zcn e1 (τ:=⟨full++base,own⟩) e0];exact hn
 have n2:Zh P σ o=none:=by unfold Zh;rw[n1]
 rw[zfG (by rw[hop];rfl),n2]
 refine .inr (.sem fun N' w0 S0 β a w s hd'=>?_)
 have e0':∀i,σ.h i=ze own i:=fun i=>congrFun e0 i
 have rx:=s.ev x;have rz:=s.ev z
 rw[e1 x (by rw[hop];simp [Op.operands,Call.operands]),hx] at rx
 rw[e1 z (by rw[hop];simp [Op.operands,Call.operands]),hzv] at rz
 have ex:=(ZR rx).1
 obtain ⟨ad,c,ds,ez,hR,hl,hc⟩:=s.rowIn hE (by rw[e0'];exact hr) rz
 have hids:∀t,q∉(σ.tmp t).ids:=fun t=>by
  have hl:∀{l:List (Nat×Av)},(∀p∈l,p∈full++base)→q∉((ze l t).getD .any).ids:=fun {l} hl=>by
   cases h:ze l t with
   |some y=>exact hfree _ (hl _ (Zy h))
   |none=>exact List.not_mem_nil
  rcases e2 t with h|h<;>rw[h]
  ·unfold zi
   have h1:=hl (l:=full) fun p hp=>List.mem_append_left _ hp
   have h2:=hl (l:=base) fun p hp=>List.mem_append_right _ hp
   cases h3:ze full t with
   |some y=>rw[h3] at h1;exact h1
   |none=>exact h2
  ·exact hl fun p hp=>List.mem_append_right _ hp
 obtain ⟨v',w',β',hrun,h1c,hβ,s2⟩:=s.pushFull (q:=q) (d:=d) (n:=n) (ty:=o.type) (c:=c) (ds:=ds) (ad:=ad) hT hE (by rw[e0'];exact hq) hfull hdz.1 (by rw[e0'];exact hdz.2) n0.1 (by rw[e0'];exact n0.2.2) n0.2.1 hb hR hl hc hids (fun i oi hi=>by rw[e0'] at hi;exact hfo _ (Zy hi))
 unfold Oper.wp execOp
 simp only [hop,resolve,invoke,builtin,Sem.run_bind,Sem.run_pure,Result.andThen_ok,List.map_toArray,List.map_cons,List.map_nil,ex,ez,hrun]
 refine ⟨β',(σ.new d (.arr 1 E (xs++ [row]))).put o.dst (.c (.gs d 1)),hK _ ?_ fun t=>?_,s2.put (Zl hd') ⟨1,E,xs++ [row],by rw[zq];simp,Nat.le_refl _,fun _=>hβ.symm,h1c⟩⟩
 ·rw[ZO,zq]
  funext i
  simp only [ze,e0']
  by_cases h1:i=d
  ·simp [h1]
  ·simp only [h1,Ne.symm h1,if_false]
 ·rw[Zp,hd]
  by_cases h1:some d=some t
  ·cases h1;rw[if_pos rfl,if_pos rfl,hv]
  ·rw[if_neg h1,if_neg h1];rfl
end
def zwS (S0:Env)(own:List (Nat×Ow)):Prop:=∀q v E xs,ze own q=some (.clo (.pin v E xs) [])→∀o0,S0.h0 q=some o0→zaz o0 (S0.β0 q) (.clo (.pin v E xs) []) v
theorem zt9 {P:Program}{N:Nat}{w0:World}{S0:Env}{β:Nat→Value}{tl:List (Nat×Av)}{own:List (Nat×Ow)}{a:Act}{w:World}(s:Sim P N w0 S0 β ⟨tl,own⟩ a w):zwS S0 own:=fun q v E xs hq o0 h0=>by
 have h:=(s.kept q o0 h0).2 _ hq
 rw[s.pinVal hq] at h
 exact h
theorem zc3 {P:Program}{f:FuncId}{fn:Func}{c:Code}{args:List Av}{own:List (Nat×Ow)}{R:Av→List (Nat×Ow)→Prop}{N:Nat}{rs:List ResultVar}(sc:Sch)(hf:P.funcs[f]? =some fn)(hn:(fn.name== "runtime.NumGoroutine")=false)(hb:fn.body=some c)(hN:fn.ntmps=N)(hrs:fn.results=rs.toArray)(hl:args.length≤N)
  (h:(∀x∈args,x.isD=true→okA P x)→∀w0 S0,zwS S0 own→ex P N w0 S0 (zj0 P rs R) sc [.code c] () 100000 ⟨Z6 0 args,own⟩):AProc P f args own R:=
 zf2 hf hn hb hN hrs hl fun hok w0 S0=>fun β a w s=>((zl7 (h hok w0 S0 (zt9 s))).mono fun _ _=>zil) β a w s
section
variable {P:Program} {N:Nat} {w0:World} {S0:Env} {σ:St}
theorem Weak.pinPop {q d g cap m:Nat}{E:TypeId}{xs:List (List D)}{y:List D}(hid:σ.h q=some (.clo (.pin (.slice (some ⟨g,0,none⟩) (m+1) cap) E (xs++ [y])) []))(hm:xs.length=m)(hd:σ.h d=none)(ht:∀p∈σ.tmps,q∉p.2.ids)(hqo:∀p∈σ.own,q∉p.2.ids)
  (hk:∀o0,S0.h0 d=some o0→zaz o0 (S0.β0 d) (.clo (.pin (.slice (some ⟨g,0,none⟩) m cap) E xs) []) (.slice (some ⟨g,0,none⟩) m cap)):Weak P N w0 S0 σ ((σ.del q).new d (.clo (.pin (.slice (some ⟨g,0,none⟩) m cap) E xs) [])):=fun β a w s=>by
 subst hm
 refine ⟨_,s.pinPop hid (.inr hd) (fun t=>?_) (fun i o hi=>hqo _ (Zy hi)) hk⟩
 unfold St.tmp
 cases h:ze σ.tmps t with
 |some y=>exact ht _ (Zy h)
 |none=>exact List.not_mem_nil
theorem zsv {Q:Exit→St→Prop}{sc:Sch}{k:List Fr}{n i:Nat}{l:List Oper}{tl:List (Nat×Av)}{hl:List (Nat×Ow)}{t:Tg (P,N,w0,S0,Q,sc,k,l,n,tl,hl)}(h:AWp P N w0 S0 (.region i l.toArray true) (fun e σ=>e= .normal∧∃σ',Weak P N w0 S0 σ σ'∧ex P N w0 S0 Q sc k () 100000 σ') ⟨tl,hl⟩):exD P N w0 S0 Q sc k i l n tl hl t none:=by
 refine (show AWp P N w0 S0 (.region i l.toArray true) (KQ P N w0 S0 Q k) ⟨tl,hl⟩ from fun β a w s=>Code.wp_mono ?_ (h β a w s))
 rintro e a' w' ⟨β',σ1,⟨rfl,σ',hw,q⟩,s'⟩
 obtain ⟨β2,s2⟩:=hw β' a' w' s'
 exact ⟨β2,σ',Z9 _ _ _ q,s2⟩
end
end Go.Smd
end
section
namespace Go.Smd
open Go.RowKit Go.Proofs Go.Proofs.Tryz
abbrev tFP:TypeId:=211
abbrev tLP:TypeId:=149
theorem zvX (v:Value)(ver:Nat)(R:List (List D))(p:List EV)(hp:∀e∈p,GoodE e)(hl:p.length*168≤140737488351232)(hb:(R.length+1)*24≤140737488351232):
  AProc prog 146 [.c (.d (.v v)),.c (.own 1000000000 0)] [(1000000000,.cells [.gs 1000000001 ver] zdx),(1000000001,.arr ver tSP R),(1000000002,.clo (.pin v tPE (p.map eD)) [])]
   (fun r own'=>r= .tup []∧own'= [(6,.arr 0 tSP [[ZT (p.map cE)]]),(1000000000,.cells [.gs 1000000001 (ver+1)] zdx),(1000000001,.arr (ver+1) tSP (R++ [[ZT (p.map cE)]])),(1000000002,.clo (.pin v tPE (p.map eD)) [])]):=by
 have h:=zvW 0 ver R p hp hl hb
 refine (AProc.pin (R:=fun r o=>r= .tup []∧o= [(6,.arr 0 tSP [[ZT (p.map cE)]]),(1000000000,.cells [.gs 1000000001 (ver+1)] zdx),(1000000001,.arr (ver+1) tSP (R++ [[ZT (p.map cE)]])),(1000000002,.arr 0 tPE (p.map eD))]) (q:=1000000002) (n:=0) (E:=tPE) (xs:=p.map eD) v (by decide) rfl (by simp) (by simp [Av.ids,Cl.ids]) ?_ (h.mono fun r o ⟨h1,h2⟩=>?_)).mono ?_
 ·intro i o hi
  have:=Zy hi
  simp only [List.mem_cons,List.not_mem_nil,or_false,Prod.mk.injEq] at this
  rcases this with ⟨_,rfl⟩|⟨_,rfl⟩|⟨_,rfl⟩<;>simp [Ow.ids,Cl.ids]
 ·subst h1;subst h2
  refine ⟨⟨rfl,rfl⟩,rfl,fun i o hi=>?_,by simp [Av.ids]⟩
  have:=Zy hi
  simp only [List.mem_cons,List.not_mem_nil,or_false,Prod.mk.injEq] at this
  rcases this with ⟨_,rfl⟩|⟨_,rfl⟩|⟨_,rfl⟩|⟨_,rfl⟩<;>simp [Ow.ids,Cl.ids]
 ·rintro r own' ⟨own2,⟨h1,h2⟩,h3⟩
  subst h2
  exact ⟨h1,h3⟩
abbrev ze3:Ow:=.clo (.fn 146) [.own 1000000002 0]
theorem zsw (g m cap ver:Nat)(R:List (List D))(p:List EV)(e:EV)(hp:∀x∈p++ [e],GoodE x)(hm:(p.map eD).length=m)(hroom:m+1≤cap)(hm2:(m+1)*168≤140737488351232)(hb:(R.length+1)*24≤140737488351232):
  AProc prog 226 [leA (z9 e),.c (.own 1000000000 0),.c (.own 1000000001 0)]
   [(1000000000,.cells [.fn 1000000004] tFP),(1000000001,.cells [.d (.v (.slice (some ⟨g,0,none⟩) m cap))] tLP),(1000000002,.cells [.gs 1000000003 ver] zdx),(1000000003,.arr ver tSP R),(1000000004,ze3),(1000000005,.clo (.pin (.slice (some ⟨g,0,none⟩) m cap) tPE (p.map eD)) [])]
   (fun r own'=>r= .tup []∧own'= [(1000000005,.clo (.pin (.slice (some ⟨g,0,none⟩) m cap) tPE (p.map eD)) []),(3,.cells (cls (eD e)) tPE),(7,.arr 0 tPE [eD e]),(6006,.arr 0 tSP [[ZT ((p++ [e]).map cE)]]),(1000000000,.cells [.fn 1000000004] tFP),(1000000001,.cells [.d (.v (.slice (some ⟨g,0,none⟩) m cap))] tLP),
    (1000000002,.cells [.gs 1000000003 (ver+1)] zdx),(1000000003,.arr (ver+1) tSP (R++ [[ZT ((p++ [e]).map cE)]])),(1000000004,ze3)]):=by
 have hbm:(m+1)*32≤140737488351232:=by omega
 have hpl:(p++ [e]).length=m+1:=by rw[List.length_append,←hm];simp
 have hc:=zvX (.slice (some ⟨g,0,none⟩) (m+1) cap) ver R (p++ [e]) hp (by rw[hpl];omega) hb
 have he1:(p++ [e]).map eD=p.map eD++ [eD e]:=by simp
 rw[he1] at hc
 generalize (p++ [e]).map cE=pq at hc ⊢
 obtain ⟨e0,e1,e2,e3,he,he'⟩:=zby (z9 e)
 have he:eD e= [e0,e1,e2,e3]:=he
 rw[he] at hc
 rw[he',he]
 generalize p.map eD=X at hm hc ⊢
 have lf:prog.lay tFP=some (1,false):=by kernel_rfl
 refine zc3 [] func226 (by kernel_rfl) rfl ntmps226 results226 (Nat.le_of_ble_eq_true (by kernel_rfl)) ?_;intro hok w0 S0 hpin
 (repeat' (first|(with_reducible first|refine zl (fun _=>?_) (fun _=>?_)|refine zk (fun _=>?_) (fun _=>?_)|refine zm zd (by kernel_rfl) ?_|exact zc rfl)|(simp -dsimp)));(all_goals try with_reducible refine zc ?_)
 refine zsv ?_
 refine zaF zd [[],[],[],[2],[1,2,3],[0,1,2,3,4]] [0,1,2,3,4,5] [3,4,5] [([],⟨[(4,?m4u1),(5,?m5u1),(6,?m6u1),(7,?m7u1),(8,?m8u1),(9,?m9u1)],?bu1,?o0u1⟩),([3],⟨[(4,?m4u1),(5,?m5u1),(6,?m6u1),(7,?m7u1),(8,?m8u1),(9,?m9u1)],?bu1,?o1u1⟩),([3,4],⟨[(4,?m4u1),(5,?m5u1),(6,?m6u1),(7,?m7u1),(8,?m8u1),(9,?m9u1)],?bu1,?o2u1⟩),([3,4,5],⟨[(4,?m4u1),(5,?m5u1),(6,?m6u1),(7,?m7u1),(8,?m8u1),(9,?m9u1)],?bu1,?o3u1⟩)] ?hoku1 rfl rfl ?hbu1 ?hou1 ?hstu1 ?hku1
 case' hbu1=>rfl
 case' hou1=>rfl
 case' hstu1=>refine ⟨⟨?v0u1,?s0u1⟩,⟨⟨?v1u1,?s1u1⟩,⟨⟨?v2u1,?s2u1⟩,⟨⟨?v3u1,?s3u1⟩,True.intro⟩⟩⟩⟩
 case v0u1=>
  iterate 3 refine ⟨.inr ⟨_,rfl,zA (ZZ rfl rfl (by simp -dsimp [zi,zf,hb,hbm,lf]<;>with_reducible rfl))⟩,?_⟩
  iterate 3 refine ⟨.inl (by kernel_rfl),?_⟩
  exact True.intro
 case s0u1=>
  refine ⟨.inr ⟨_,_,rfl,rfl,Zv (zdI (hdk:=rfl) (hW:=rfl) (hq:=by simp -dsimp [zi,zf,hb,hbm,lf]<;>(first|done|rfl|exact ⟨rfl,rfl⟩|exact ⟨rfl,rfl,rfl⟩)) (hoo:=rfl) (hv:=by simp -dsimp [zi,zf,hb,hbm,lf]<;>with_reducible rfl)) (by simp -dsimp [zi,ZK,zbQ,zf,hb,hbm,lf]<;>with_reducible rfl)⟩,?_⟩
  iterate 2 refine ⟨.inl (by kernel_rfl),?_⟩
  exact True.intro
 case v1u1=>
  iterate 2 refine ⟨.inr ⟨_,rfl,zA (ZZ rfl rfl (by simp -dsimp [zi,zf,hb,hbm,lf]<;>with_reducible rfl))⟩,?_⟩
  iterate 4 refine ⟨.inl (by kernel_rfl),?_⟩
  exact True.intro
 case' s1u1=>
  refine ⟨.inl (by kernel_rfl),?_⟩
  refine ⟨.inr ⟨_,_,rfl,rfl,Zv (zmU (n:=999) (q:=1000000005) ⟨by decide,by decide,by simp -dsimp [zi,zf,hb,hbm,lf]⟩ (hop:=rfl) (hd:=rfl) (hdk:=rfl) ⟨by decide,by simp -dsimp [zi,zf,hb,hbm,lf]⟩ (hT:=by kernel_rfl) (hE:=by kernel_rfl) (hn:=by first|rfl|kernel_rfl) (hx:=by simp -dsimp [zi,zf,hb,hbm,lf]<;>(first|done|rfl|exact ⟨rfl,rfl⟩|exact ⟨rfl,rfl,rfl⟩|exact ⟨⟨rfl,rfl,rfl⟩,rfl,rfl⟩)) (hzv:=by simp -dsimp [zi,zf,hb,hbm,lf]<;>(first|done|rfl|exact ⟨rfl,rfl⟩|exact ⟨rfl,rfl,rfl⟩|exact ⟨⟨rfl,rfl,rfl⟩,rfl,rfl⟩)) (hr:=by simp -dsimp [zi,zf,hb,hbm,lf]<;>(first|done|rfl|exact ⟨rfl,rfl⟩|exact ⟨rfl,rfl,rfl⟩|exact ⟨⟨rfl,rfl,rfl⟩,rfl,rfl⟩)) (hq:=by first|rfl|(simp -dsimp [zi,zf,hb,hbm,lf]<;>(first|done|rfl|exact ⟨rfl,rfl⟩|exact ⟨rfl,rfl,rfl⟩|exact ⟨⟨rfl,rfl,rfl⟩,rfl,rfl⟩))) (hm:=by first|assumption|rfl|simp;done) (hroom:=by first|assumption|omega) (hb:=by simp -dsimp [zi,zf,hb,hbm,lf]<;>first|done|assumption|omega) (hfree:= ?hf4k1u1) (hfo:=by simp -dsimp [zi,Av.ids,Ow.ids,Cl.ids,zf,hb,hbm,lf]) (ho:=by with_reducible rfl) (hv:=by simp -dsimp [zi,zf,hb,hbm,lf]<;>with_reducible rfl)) (by simp -dsimp [zi,ZK,zbQ,zbs,zf,hb,hbm,lf]<;>with_reducible rfl)⟩,?_⟩
  rotate_left
  refine ⟨.inl (by kernel_rfl),?_⟩
  exact True.intro
 case v2u1=>
  refine ⟨.inr ⟨_,rfl,zA (ZZ rfl rfl (by simp -dsimp [zi,zf,hb,hbm,lf]<;>with_reducible rfl))⟩,?_⟩
  iterate 5 refine ⟨.inl (by kernel_rfl),?_⟩
  exact True.intro
 case' s2u1=>
  iterate 2 refine ⟨.inl (by kernel_rfl),?_⟩
  refine ⟨.inr ⟨_,_,rfl,rfl,Zv (zfV (d:=9) (ρ:=[(1000000000,1000000002),(1000000001,1000000003),(1000000002,8)]) (t:=5) (hR:=hc) (hp:=rfl) (hd:=rfl) (hdk:=rfl) (hc:=by simp -dsimp [zi,zf,hb,hbm,lf]<;>(first|done|rfl|exact ⟨rfl,rfl⟩|exact ⟨rfl,rfl,rfl⟩)) (hx:=by simp -dsimp [zi,zf,hb,hbm,lf]<;>with_reducible rfl) (ho:=by simp -dsimp [zi,zf,hb,hbm,lf]) (hh:=by simp -dsimp [zi,zf,hb,hbm,lf]) (hb:=by simp -dsimp [zi,zf,hb,hbm,lf]) (h1:=by simp -dsimp [zi,zf,hb,hbm,lf]<;>with_reducible rfl) (hv:=by simp -dsimp [zi,zf,hb,hbm,lf]<;>with_reducible rfl) (hfix:= ?hf5k2u1)) (by simp -dsimp [zi,ZK,zbQ,zf,hb,hbm,lf]<;>with_reducible rfl)⟩,?_⟩
  rotate_left
  exact True.intro
 case v3u1=>
  iterate 6 refine ⟨.inl (by kernel_rfl),?_⟩
  exact True.intro
 case s3u1=>
  iterate 3 refine ⟨.inl (by kernel_rfl),?_⟩
  exact True.intro
 case s1u1=>simp -dsimp [zi,Av.ids,Ow.ids,Cl.ids,zf,hb,hbm,lf]
 case s2u1=>simp -dsimp [zi,Av.ids,Cl.ids,zf,hb,hbm,lf]
 case hoku1=>kernel_rfl
 refine ⟨rfl,_,Weak.pinPop (q:=8) (d:=1000000005) (hid:=by simp -dsimp [zi,zf,hb,hbm,lf]<;>with_reducible rfl) (hm:=by assumption) (hd:=by simp -dsimp [zi,zf,hb,hbm,lf]) (ht:=by simp -dsimp [zi,Av.ids,Ow.ids,Cl.ids,zf,hb,hbm,lf]) (hqo:=by simp -dsimp [zi,Av.ids,Ow.ids,Cl.ids,zf,hb,hbm,lf]) (hk:=fun o0 h=>hpin 1000000005 _ _ _ rfl o0 h),?_⟩
 (repeat' (first|(with_reducible first|refine zl (fun _=>?_) (fun _=>?_)|refine zk (fun _=>?_) (fun _=>?_)|refine zm zd (by kernel_rfl) ?_|exact zc rfl)|(simp -dsimp)));(all_goals try with_reducible refine zc ?_)
 exact ⟨rfl,rfl⟩
theorem zsx (g m cap ver:Nat)(R:List (List D))(p:List EV)(e:EV)(hp:∀x∈p++ [e],GoodE x)(hm:(p.map eD).length=m)(hcap:cap<m+1)(hm2:(m+1)*168≤140737488351232)(hb:(R.length+1)*24≤140737488351232):
  AProc prog 226 [leA (z9 e),.c (.own 1000000000 0),.c (.own 1000000001 0)]
   [(1000000000,.cells [.fn 1000000004] tFP),(1000000001,.cells [.d (.v (.slice (some ⟨g,0,none⟩) m cap))] tLP),(1000000002,.cells [.gs 1000000003 ver] zdx),(1000000003,.arr ver tSP R),(1000000004,ze3),(1000000005,.clo (.pin (.slice (some ⟨g,0,none⟩) m cap) tPE (p.map eD)) [])]
   (fun r own'=>r= .tup []∧own'= [(3,.cells (cls (eD e)) tPE),(7,.arr 0 tPE [eD e]),(8,.arr 1 tPE (p.map eD++ [eD e])),(6006,.arr 0 tSP [[ZT ((p++ [e]).map cE)]]),(1000000000,.cells [.fn 1000000004] tFP),(1000000001,.cells [.d (.v (.slice (some ⟨g,0,none⟩) m cap))] tLP),
    (1000000002,.cells [.gs 1000000003 (ver+1)] zdx),(1000000003,.arr (ver+1) tSP (R++ [[ZT ((p++ [e]).map cE)]])),(1000000004,ze3),(1000000005,.clo (.pin (.slice (some ⟨g,0,none⟩) m cap) tPE (p.map eD)) [])]):=by
 have hfull:∀g' cap',Value.slice (some ⟨g,0,none⟩) m cap= .slice (some ⟨g',0,none⟩) m cap'→cap'<m+1:=fun g' cap' h=>by injection h with _ _ h3;omega
 have hbm:(m+1)*32≤140737488351232:=by omega
 have hpl:(p++ [e]).length=m+1:=by rw[List.length_append,←hm];simp
 have hc:=zvW 1 ver R (p++ [e]) hp (by rw[hpl];omega) hb
 have he1:(p++ [e]).map eD=p.map eD++ [eD e]:=by simp
 rw[he1] at hc
 generalize (p++ [e]).map cE=pq at hc ⊢
 obtain ⟨e0,e1,e2,e3,he,he'⟩:=zby (z9 e)
 have he:eD e= [e0,e1,e2,e3]:=he
 rw[he] at hc
 rw[he',he]
 generalize p.map eD=X at hm hc ⊢
 have lf:prog.lay tFP=some (1,false):=by kernel_rfl
 refine zc3 [] func226 (by kernel_rfl) rfl ntmps226 results226 (Nat.le_of_ble_eq_true (by kernel_rfl)) ?_;intro hok w0 S0 hpin
 (repeat' (first|(with_reducible first|refine zl (fun _=>?_) (fun _=>?_)|refine zk (fun _=>?_) (fun _=>?_)|refine zm zd (by kernel_rfl) ?_|exact zc rfl)|(simp -dsimp)));(all_goals try with_reducible refine zc ?_)
 refine zdH ?_
 refine zaF zd [[],[],[],[2],[1,2,3],[0,1,2,3,4]] [0,1,2,3,4,5] [3,4,5] [([],⟨[(4,?m4u2),(5,?m5u2),(6,?m6u2),(7,?m7u2),(8,?m8u2),(9,?m9u2)],?bu2,?o0u2⟩),([3],⟨[(4,?m4u2),(5,?m5u2),(6,?m6u2),(7,?m7u2),(8,?m8u2),(9,?m9u2)],?bu2,?o1u2⟩),([3,4],⟨[(4,?m4u2),(5,?m5u2),(6,?m6u2),(7,?m7u2),(8,?m8u2),(9,?m9u2)],?bu2,?o2u2⟩),([3,4,5],⟨[(4,?m4u2),(5,?m5u2),(6,?m6u2),(7,?m7u2),(8,?m8u2),(9,?m9u2)],?bu2,?o3u2⟩)] ?hoku2 rfl rfl ?hbu2 ?hou2 ?hstu2 ?hku2
 case' hbu2=>rfl
 case' hou2=>rfl
 case' hstu2=>refine ⟨⟨?v0u2,?s0u2⟩,⟨⟨?v1u2,?s1u2⟩,⟨⟨?v2u2,?s2u2⟩,⟨⟨?v3u2,?s3u2⟩,True.intro⟩⟩⟩⟩
 case v0u2=>
  iterate 3 refine ⟨.inr ⟨_,rfl,zA (ZZ rfl rfl (by simp -dsimp [zi,zf,hb,hbm,lf]<;>with_reducible rfl))⟩,?_⟩
  iterate 3 refine ⟨.inl (by kernel_rfl),?_⟩
  exact True.intro
 case s0u2=>
  refine ⟨.inr ⟨_,_,rfl,rfl,Zv (zdI (hdk:=rfl) (hW:=rfl) (hq:=by simp -dsimp [zi,zf,hb,hbm,lf]<;>(first|done|rfl|exact ⟨rfl,rfl⟩|exact ⟨rfl,rfl,rfl⟩)) (hoo:=rfl) (hv:=by simp -dsimp [zi,zf,hb,hbm,lf]<;>with_reducible rfl)) (by simp -dsimp [zi,ZK,zbQ,zf,hb,hbm,lf]<;>with_reducible rfl)⟩,?_⟩
  iterate 2 refine ⟨.inl (by kernel_rfl),?_⟩
  exact True.intro
 case v1u2=>
  iterate 2 refine ⟨.inr ⟨_,rfl,zA (ZZ rfl rfl (by simp -dsimp [zi,zf,hb,hbm,lf]<;>with_reducible rfl))⟩,?_⟩
  iterate 4 refine ⟨.inl (by kernel_rfl),?_⟩
  exact True.intro
 case' s1u2=>
  refine ⟨.inl (by kernel_rfl),?_⟩
  refine ⟨.inr ⟨_,_,rfl,rfl,Zv (zmV (n:=999) (q:=1000000005) ⟨by decide,by decide,by simp -dsimp [zi,zf,hb,hbm,lf]⟩ (hop:=rfl) (hd:=rfl) (hdk:=rfl) ⟨by decide,by simp -dsimp [zi,zf,hb,hbm,lf]⟩ (hT:=by kernel_rfl) (hE:=by kernel_rfl) (hn:=by first|rfl|kernel_rfl) (hx:=by simp -dsimp [zi,zf,hb,hbm,lf]<;>(first|done|rfl|exact ⟨rfl,rfl⟩|exact ⟨rfl,rfl,rfl⟩|exact ⟨⟨rfl,rfl,rfl⟩,rfl,rfl⟩)) (hzv:=by simp -dsimp [zi,zf,hb,hbm,lf]<;>(first|done|rfl|exact ⟨rfl,rfl⟩|exact ⟨rfl,rfl,rfl⟩|exact ⟨⟨rfl,rfl,rfl⟩,rfl,rfl⟩)) (hr:=by simp -dsimp [zi,zf,hb,hbm,lf]<;>(first|done|rfl|exact ⟨rfl,rfl⟩|exact ⟨rfl,rfl,rfl⟩|exact ⟨⟨rfl,rfl,rfl⟩,rfl,rfl⟩)) (hq:=by first|rfl|(simp -dsimp [zi,zf,hb,hbm,lf]<;>(first|done|rfl|exact ⟨rfl,rfl⟩|exact ⟨rfl,rfl,rfl⟩|exact ⟨⟨rfl,rfl,rfl⟩,rfl,rfl⟩))) (hm:=by first|assumption|rfl|simp;done) (hfull:=by first|assumption|omega) (hb:=by simp -dsimp [zi,zf,hb,hbm,lf]<;>first|done|assumption|omega) (hfree:= ?hf4k1u2) (hfo:=by simp -dsimp [zi,Av.ids,Ow.ids,Cl.ids,zf,hb,hbm,lf]) (ho:=by with_reducible rfl) (hv:=by simp -dsimp [zi,zf,hb,hbm,lf]<;>with_reducible rfl)) (by simp -dsimp [zi,ZK,zbQ,zbs,zf,hb,hbm,lf]<;>with_reducible rfl)⟩,?_⟩
  rotate_left
  refine ⟨.inl (by kernel_rfl),?_⟩
  exact True.intro
 case v2u2=>
  refine ⟨.inr ⟨_,rfl,zA (ZZ rfl rfl (by simp -dsimp [zi,zf,hb,hbm,lf]<;>with_reducible rfl))⟩,?_⟩
  iterate 5 refine ⟨.inl (by kernel_rfl),?_⟩
  exact True.intro
 case' s2u2=>
  iterate 2 refine ⟨.inl (by kernel_rfl),?_⟩
  refine ⟨.inr ⟨_,_,rfl,rfl,Zv (zfV (d:=9) (ρ:=[(1000000000,1000000002),(1000000001,1000000003),(1000000002,8)]) (t:=5) (hR:=hc) (hp:=rfl) (hd:=rfl) (hdk:=rfl) (hc:=by simp -dsimp [zi,zf,hb,hbm,lf]<;>(first|done|rfl|exact ⟨rfl,rfl⟩|exact ⟨rfl,rfl,rfl⟩)) (hx:=by simp -dsimp [zi,zf,hb,hbm,lf]<;>with_reducible rfl) (ho:=by simp -dsimp [zi,zf,hb,hbm,lf]) (hh:=by simp -dsimp [zi,zf,hb,hbm,lf]) (hb:=by simp -dsimp [zi,zf,hb,hbm,lf]) (h1:=by simp -dsimp [zi,zf,hb,hbm,lf]<;>with_reducible rfl) (hv:=by simp -dsimp [zi,zf,hb,hbm,lf]<;>with_reducible rfl) (hfix:= ?hf5k2u2)) (by simp -dsimp [zi,ZK,zbQ,zf,hb,hbm,lf]<;>with_reducible rfl)⟩,?_⟩
  rotate_left
  exact True.intro
 case v3u2=>
  iterate 6 refine ⟨.inl (by kernel_rfl),?_⟩
  exact True.intro
 case s3u2=>
  iterate 3 refine ⟨.inl (by kernel_rfl),?_⟩
  exact True.intro
 case s1u2=>simp -dsimp [zi,Av.ids,Ow.ids,Cl.ids,zf,hb,hbm,lf]
 case s2u2=>simp -dsimp [zi,Av.ids,Cl.ids,zf,hb,hbm,lf]
 case hoku2=>kernel_rfl
 refine ⟨rfl,?_⟩
 (repeat' (first|(with_reducible first|refine zl (fun _=>?_) (fun _=>?_)|refine zk (fun _=>?_) (fun _=>?_)|refine zm zd (by kernel_rfl) ?_|exact zc rfl)|(simp -dsimp)));(all_goals try with_reducible refine zc ?_)
 exact ⟨rfl,rfl⟩
theorem zua (ver:Nat)(R:List (List D))(e:EV)(hp:∀x∈ [e],GoodE x)(hb:(R.length+1)*24≤140737488351232):
  AProc prog 226 [leA (z9 e),.c (.own 1000000000 0),.c (.own 1000000001 0)]
   [(1000000000,.cells [.fn 1000000004] tFP),(1000000001,.cells [.d (.v (.slice none 0 0))] tLP),(1000000002,.cells [.gs 1000000003 ver] zdx),(1000000003,.arr ver tSP R),(1000000004,ze3),(1000000005,.clo (.pin (.slice none 0 0) tPE []) [])]
   (fun r own'=>r= .tup []∧own'= [(3,.cells (cls (eD e)) tPE),(7,.arr 0 tPE [eD e]),(8,.arr 1 tPE [eD e]),(6006,.arr 0 tSP [[ZT ([e].map cE)]]),(1000000000,.cells [.fn 1000000004] tFP),(1000000001,.cells [.d (.v (.slice none 0 0))] tLP),
    (1000000002,.cells [.gs 1000000003 (ver+1)] zdx),(1000000003,.arr (ver+1) tSP (R++ [[ZT ([e].map cE)]])),(1000000004,ze3),(1000000005,.clo (.pin (.slice none 0 0) tPE []) [])]):=by
 have hc:=zvW 1 ver R [e] hp (by simp) hb
 have he1: [e].map eD= [eD e]:=rfl
 rw[he1] at hc
 generalize [e].map cE=pq at hc ⊢
 obtain ⟨e0,e1,e2,e3,he,he'⟩:=zby (z9 e)
 have he:eD e= [e0,e1,e2,e3]:=he
 rw[he] at hc
 rw[he',he]
 have lf:prog.lay tFP=some (1,false):=by kernel_rfl
 refine zc3 [] func226 (by kernel_rfl) rfl ntmps226 results226 (Nat.le_of_ble_eq_true (by kernel_rfl)) ?_;intro hok w0 S0 hpin
 (repeat' (first|(with_reducible first|refine zl (fun _=>?_) (fun _=>?_)|refine zk (fun _=>?_) (fun _=>?_)|refine zm zd (by kernel_rfl) ?_|exact zc rfl)|(simp -dsimp)));(all_goals try with_reducible refine zc ?_)
 refine zdH ?_
 refine zaF zd [[],[],[],[2],[1,2,3],[0,1,2,3,4]] [0,1,2,3,4,5] [3,4,5] [([],⟨[(4,?m4u3),(5,?m5u3),(6,?m6u3),(7,?m7u3),(8,?m8u3),(9,?m9u3)],?bu3,?o0u3⟩),([3],⟨[(4,?m4u3),(5,?m5u3),(6,?m6u3),(7,?m7u3),(8,?m8u3),(9,?m9u3)],?bu3,?o1u3⟩),([3,4],⟨[(4,?m4u3),(5,?m5u3),(6,?m6u3),(7,?m7u3),(8,?m8u3),(9,?m9u3)],?bu3,?o2u3⟩),([3,4,5],⟨[(4,?m4u3),(5,?m5u3),(6,?m6u3),(7,?m7u3),(8,?m8u3),(9,?m9u3)],?bu3,?o3u3⟩)] ?hoku3 rfl rfl ?hbu3 ?hou3 ?hstu3 ?hku3
 case' hbu3=>rfl
 case' hou3=>rfl
 case' hstu3=>refine ⟨⟨?v0u3,?s0u3⟩,⟨⟨?v1u3,?s1u3⟩,⟨⟨?v2u3,?s2u3⟩,⟨⟨?v3u3,?s3u3⟩,True.intro⟩⟩⟩⟩
 case v0u3=>
  iterate 3 refine ⟨.inr ⟨_,rfl,zA (ZZ rfl rfl (by simp -dsimp [zi,zf,hb,lf]<;>with_reducible rfl))⟩,?_⟩
  iterate 3 refine ⟨.inl (by kernel_rfl),?_⟩
  exact True.intro
 case s0u3=>
  refine ⟨.inr ⟨_,_,rfl,rfl,Zv (zdI (hdk:=rfl) (hW:=rfl) (hq:=by simp -dsimp [zi,zf,hb,lf]<;>(first|done|rfl|exact ⟨rfl,rfl⟩|exact ⟨rfl,rfl,rfl⟩)) (hoo:=rfl) (hv:=by simp -dsimp [zi,zf,hb,lf]<;>with_reducible rfl)) (by simp -dsimp [zi,ZK,zbQ,zf,hb,lf]<;>with_reducible rfl)⟩,?_⟩
  iterate 2 refine ⟨.inl (by kernel_rfl),?_⟩
  exact True.intro
 case v1u3=>
  iterate 2 refine ⟨.inr ⟨_,rfl,zA (ZZ rfl rfl (by simp -dsimp [zi,zf,hb,lf]<;>with_reducible rfl))⟩,?_⟩
  iterate 4 refine ⟨.inl (by kernel_rfl),?_⟩
  exact True.intro
 case s1u3=>
  refine ⟨.inl (by kernel_rfl),?_⟩
  refine ⟨.inr ⟨_,_,rfl,rfl,Zv (zdI (hdk:=rfl) (hW:=rfl) (hq:=by simp -dsimp [zi,zf,hb,lf]<;>(first|done|rfl|exact ⟨rfl,rfl⟩|exact ⟨rfl,rfl,rfl⟩)) (hoo:=rfl) (hv:=by simp -dsimp [zi,zf,hb,lf]<;>with_reducible rfl)) (by simp -dsimp [zi,ZK,zbQ,zf,hb,lf]<;>with_reducible rfl)⟩,?_⟩
  refine ⟨.inl (by kernel_rfl),?_⟩
  exact True.intro
 case v2u3=>
  refine ⟨.inr ⟨_,rfl,zA (ZZ rfl rfl (by simp -dsimp [zi,zf,hb,lf]<;>with_reducible rfl))⟩,?_⟩
  iterate 5 refine ⟨.inl (by kernel_rfl),?_⟩
  exact True.intro
 case' s2u3=>
  iterate 2 refine ⟨.inl (by kernel_rfl),?_⟩
  refine ⟨.inr ⟨_,_,rfl,rfl,Zv (zfV (d:=9) (ρ:=[(1000000000,1000000002),(1000000001,1000000003),(1000000002,8)]) (t:=5) (hR:=hc) (hp:=rfl) (hd:=rfl) (hdk:=rfl) (hc:=by simp -dsimp [zi,zf,hb,lf]<;>(first|done|rfl|exact ⟨rfl,rfl⟩|exact ⟨rfl,rfl,rfl⟩)) (hx:=by simp -dsimp [zi,zf,hb,lf]<;>with_reducible rfl) (ho:=by simp -dsimp [zi,zf,hb,lf]) (hh:=by simp -dsimp [zi,zf,hb,lf]) (hb:=by simp -dsimp [zi,zf,hb,lf]) (h1:=by simp -dsimp [zi,zf,hb,lf]<;>with_reducible rfl) (hv:=by simp -dsimp [zi,zf,hb,lf]<;>with_reducible rfl) (hfix:= ?hf5k2u3)) (by simp -dsimp [zi,ZK,zbQ,zf,hb,lf]<;>with_reducible rfl)⟩,?_⟩
  rotate_left
  exact True.intro
 case v3u3=>
  iterate 6 refine ⟨.inl (by kernel_rfl),?_⟩
  exact True.intro
 case s3u3=>
  iterate 3 refine ⟨.inl (by kernel_rfl),?_⟩
  exact True.intro
 case s2u3=>simp -dsimp [zi,Av.ids,Cl.ids,zf,hb,lf]
 case hoku3=>kernel_rfl
 refine ⟨rfl,?_⟩
 (repeat' (first|(with_reducible first|refine zl (fun _=>?_) (fun _=>?_)|refine zk (fun _=>?_) (fun _=>?_)|refine zm zd (by kernel_rfl) ?_|exact zc rfl)|(simp -dsimp)));(all_goals try with_reducible refine zc ?_)
 exact ⟨rfl,rfl⟩
end Go.Smd
end
