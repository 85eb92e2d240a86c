/- Part 21 of the proof: Vl Specb Am At1 Zz Vm. -/
import Derived.Test.YtdgnolbdcmgfoaaGreatQO20
import Derived.Test.YtdgnolbdcmgfoaaGreatQO14
set_option linter.unusedVariables false
set_option linter.unusedSimpArgs false
set_option maxRecDepth 100000
set_option maxHeartbeats 8000000
section
namespace Go.Smd
open Go.RowKit Go.Proofs Go.Proofs.Tryz
mutual
def dep:Tree→Nat
 | .list l=>depL l+1
 | .map m=>depM m+1
 |_=>1
def depL:List Tree→Nat
 | []=>0
 |x::l=>max (dep x) (depL l)
def depM:List (ByteArray×Tree)→Nat
 | []=>0
 |p::m=>max (dep p.2) (depM m)
end
theorem zdJ:∀{l:List Tree} {x:Tree},x∈l→dep x≤depL l
 | [],_,h=>by cases h
 |y::l,x,h=>by
  simp only [depL]
  rcases List.mem_cons.1 h with rfl|h
  ·exact Nat.le_max_left _ _
  ·exact Nat.le_trans (zdJ h) (Nat.le_max_right _ _)
theorem zdK:∀{m:List (ByteArray×Tree)} {p:ByteArray×Tree},p∈m→dep p.2≤depM m
 | [],_,h=>by cases h
 |y::l,x,h=>by
  simp only [depM]
  rcases List.mem_cons.1 h with rfl|h
  ·exact Nat.le_max_left _ _
  ·exact Nat.le_trans (zdK h) (Nat.le_max_right _ _)
theorem zgg (x:Tree):1≤dep x:=by cases x<;>simp [dep]
noncomputable def zdm (m1 m2:List (ByteArray×Tree)):List ByteArray:=open Classical in if h:∃ss,zbB m1 m2 ss then Classical.choose h else []
theorem zmp {m1 m2:List (ByteArray×Tree)}{ss:List ByteArray}(h:zbB m1 m2 ss):ss=zdm m1 m2:=by
 have hx:∃ss,zbB m1 m2 ss:=⟨ss,h⟩
 unfold zdm
 rw[dif_pos hx]
 have k:=Classical.choose_spec hx
 exact zff h.1 k.1 fun q=>by rw[h.2 q,k.2 q]
noncomputable def ziB:Nat→Tree→Tree→Int
 |0,_,_=>0
 |n+1,x,y=>ztF (zet (ziB n)) (fun a b=>zbO (ziB n) a b 0 (zdm a b)) x y
def eqF:Nat→Tree→Tree→Bool
 |0,_,_=>false
 |n+1,x,y=>eqT (eqL (eqF n)) (zeI (eqF n)) x y
theorem zgN:∀(n:Nat) (x y:Tree),dep x≤n→z8 x→z8 y→ACalls prog zbn [zY,.c (.d (dV x)),.c (.d (dV y))] (fun r=>r=aV (.int .i64 (ziB n x y)))
 |0,x,y,h,_,_=>by have:=zgg x;omega
 |n+1,x,y,h,hx,hy=>by
  refine ziw (zet (ziB n)) (fun a b=>zbO (ziB n) a b 0 (zdm a b)) x y (fun l m e1 e2=>?_) fun l m e1 e2=>?_
  ·subst e1;subst e2
   simp only [z8] at hx hy
   simp only [dep] at h
   exact zfH _ l m (by omega) (by omega) fun a ha b hb=>zgN n a b (by have:=zdJ ha;omega) (hx.2.mem a ha) (hy.2.mem b hb)
  ·subst e1;subst e2
   simp only [z8] at hx hy
   simp only [dep] at h
   refine (zgf (ziB n) l m hx.2.1 hy.2.1 (by omega) fun a ha b hb=>zgN n a.2 b.2 (by have:=zdK ha;omega) (hx.2.2.mem a ha) (hy.2.2.mem b hb)).mono ?_
   rintro r ⟨ss,hss,rfl⟩
   rw[zmp hss]
theorem ziC:∀(n:Nat) (x y:Tree),dep x≤n→z8 x→z8 y→ACalls prog zal [zY,.c (.d (dV x)),.c (.d (dV y))] (fun r=>r=aV (.bool (eqF n x y)))
 |0,x,y,h,_,_=>by have:=zgg x;omega
 |n+1,x,y,h,hx,hy=>by
  refine zjo (eqL (eqF n)) (zeI (eqF n)) x y (fun l m e1 e2=>?_) fun l m e1 e2=>?_
  ·subst e1;subst e2
   simp only [z8] at hx hy
   simp only [dep] at h
   exact zpC _ l m (by omega) (by omega) fun a ha b hb=>ziC n a b (by have:=zdJ ha;omega) (hx.2.mem a ha) (hy.2.mem b hb)
  ·subst e1;subst e2
   simp only [z8] at hx hy
   simp only [dep] at h
   exact zrD (eqF n) l m hx.2.1 hy.2.1 (by omega) fun a ha b hb=>ziC n a.2 b.2 (by have:=zdK ha;omega) (hx.2.2.mem a ha) (hy.2.2.mem b hb)
mutual
def ziD:Tree→Prop
 | .float f=>ziA f f=some .eq
 | .list l=>ordL l
 | .map m=>ordM m
 |_=>True
def ordL:List Tree→Prop
 | []=>True
 |x::l=>ziD x∧ordL l
def ordM:List (ByteArray×Tree)→Prop
 | []=>True
 |p::m=>ziD p.2∧ordM m
end
theorem ziE:∀{m:List (ByteArray×Tree)},ordM m→∀p∈m,ziD p.2
 | [],_,x,h=>by cases h
 |y::l,hf,x,h=>by
  simp only [ordM] at hf
  rcases List.mem_cons.1 h with rfl|h
  ·exact hf.1
  ·exact ziE hf.2 x h
theorem ziF:∀{m:List Tree},ordL m→∀p∈m,ziD p
 | [],_,x,h=>by cases h
 |y::l,hf,x,h=>by
  simp only [ordL] at hf
  rcases List.mem_cons.1 h with rfl|h
  ·exact hf.1
  ·exact ziF hf.2 x h
theorem zfK {a b:Nat}(h:∃o,ziA a b=some o):zbv a b=0↔znD a b=true:=by
 obtain ⟨o,h⟩:=h
 unfold zbv znD
 have h':FloatKind.f64.format.order a b=some o:=h
 rw[h']
 cases o<;>simp
theorem zcz:∀l m:List UInt8,Lib.compareBytes l m=0↔l=m
 | [],[]=>by simp [Lib.compareBytes]
 | [],_::_=>by simp [Lib.compareBytes]
 |_::_,[]=>by simp [Lib.compareBytes]
 |x::l,y::m=>by
  have ih:=zcz l m
  simp only [Lib.compareBytes,List.cons.injEq]
  by_cases h1:x<y
  ·have hne:x≠y:=fun e=>by subst e;exact absurd h1 (UInt8.lt_irrefl x)
   simp [h1,hne]
  ·by_cases h2:y<x
   ·have hne:x≠y:=fun e=>by subst e;exact absurd h2 (UInt8.lt_irrefl x)
    simp [h1,h2,hne]
   ·have he:x=y:=by
     rw[UInt8.lt_iff_toNat_lt] at h1 h2
     exact UInt8.toNat_inj.1 (by omega)
    subst he
    simp [h1,ih]
theorem zj9 {c:Tree→Tree→Int}{e:Tree→Tree→Bool}:∀{l m:List Tree},(∀x∈l,∀y∈m,(c x y=0↔e x y=true))→(zet c l m=0↔eqL e l m=true)
 | [],[],_=>by simp [zet,eqL]
 | [],_::_,_=>by simp [zet,eqL]
 |_::_,[],_=>by simp [zet,eqL]
 |x::l,y::m,h=>by
  have ih:=zj9 (l:=l) (m:=m) (c:=c) (e:=e) fun a ha b hb=>h a (List.mem_cons_of_mem _ ha) b (List.mem_cons_of_mem _ hb)
  have h0:=h x (List.mem_cons_self ..) y (List.mem_cons_self ..)
  simp only [zet,eqL,Bool.and_eq_true]
  by_cases hc:c x y=0
  ·simp [hc,ih,h0.1 hc]
  ·have:¬e x y=true:=fun he=>hc (h0.2 he)
   simp [hc,this]
theorem zfL {c:Tree→Tree→Int}{m1 m2:List (ByteArray×Tree)}:∀(ks:List ByteArray) (i:Nat),i+ks.length≤m1.length∨¬(∀k∈ks,(Zg m1 k).isSome=true∧(Zg m2 k).isSome=true)→i+ks.length≤m2.length∨¬(∀k∈ks,(Zg m1 k).isSome=true∧(Zg m2 k).isSome=true)→
  (zbO c m1 m2 i ks=0↔∀k∈ks,∃x y,Zg m1 k=some x∧Zg m2 k=some y∧c x y=0)
 | [],i,_,_=>by simp [zbO]
 |k::ks,i,h1,h2=>by
  by_cases hall:∀q∈k::ks,(Zg m1 q).isSome=true∧(Zg m2 q).isSome=true
  ·have l1:i+(ks.length+1)≤m1.length:=by simpa using h1.resolve_right (fun h=>h hall)
   have l2:i+(ks.length+1)≤m2.length:=by simpa using h2.resolve_right (fun h=>h hall)
   have ih:=zfL (c:=c) (m1:=m1) (m2:=m2) ks (i+1) (.inl (by omega)) (.inl (by omega))
   obtain ⟨x,hx⟩:=Option.isSome_iff_exists.1 (hall k (List.mem_cons_self ..)).1
   obtain ⟨y,hy⟩:=Option.isSome_iff_exists.1 (hall k (List.mem_cons_self ..)).2
   have ho:zaH c m1 m2 i k=c x y:=by unfold zaH;rw[if_neg (by omega),if_neg (by omega),hx,hy]
   simp only [zbO,ho]
   by_cases hc:c x y=0
   ·simp only [hc,ne_eq,not_true_eq_false,if_false,ih,List.mem_cons,forall_eq_or_imp]
    exact ⟨fun h=>⟨⟨x,y,hx,hy,hc⟩,h⟩,fun h=>h.2⟩
   ·simp only [ne_eq,hc,not_false_eq_true,if_true,false_iff]
    intro h
    obtain ⟨x',y',hx',hy',h0⟩:=h k (List.mem_cons_self ..)
    rw[hx] at hx';rw[hy] at hy';cases hx';cases hy'
    exact hc h0
  ·have hno:¬∀q∈k::ks,∃x y,Zg m1 q=some x∧Zg m2 q=some y∧c x y=0:=fun h=>hall fun q hq=>by
    obtain ⟨x,y,hx,hy,_⟩:=h q hq
    simp [hx,hy]
   simp only [hno,iff_false]
   by_cases hk:(Zg m1 k).isSome=true∧(Zg m2 k).isSome=true
   ·have hrest:¬∀q∈ks,(Zg m1 q).isSome=true∧(Zg m2 q).isSome=true:=fun h=>hall fun q hq=>by
     rcases List.mem_cons.1 hq with rfl|hq
     ·exact hk
     ·exact h q hq
    have ih:=zfL (c:=c) (m1:=m1) (m2:=m2) ks (i+1) (.inr hrest) (.inr hrest)
    simp only [zbO]
    by_cases ho:zaH c m1 m2 i k=0
    ·rw[if_neg (by simp [ho])]
     rw[ih]
     exact fun h=>hrest fun q hq=>by
      obtain ⟨x,y,hx,hy,_⟩:=h q hq
      simp [hx,hy]
    ·rw[if_pos ho];exact ho
   ·simp only [zbO]
    have ho:zaH c m1 m2 i k≠0:=by
     unfold zaH
     split
     ·decide
     ·split
      ·decide
      ·cases hx:Zg m1 k with
       |none=>simp
       |some x=>cases hy:Zg m2 k with
        |none=>simp
        |some y=>exact absurd ⟨by simp [hx],by simp [hy]⟩ hk
    rw[if_pos ho];exact ho
theorem zmq (m1 m2:List (ByteArray×Tree))(h:∃ss,zbB m1 m2 ss):zbB m1 m2 (zdm m1 m2):=by
 obtain ⟨ss,h⟩:=h
 rw[←zmp h];exact h
theorem zcf {l:List ByteArray}(h:l.Pairwise fun a b=>blt a b=true):l.Nodup:=h.imp fun h=>zni h
theorem zeL:∀{l m:List ByteArray},l.Nodup→(∀q∈l,q∈m)→l.length≤m.length
 | [],_,_,_=>Nat.zero_le _
 |x::l,m,hn,h=>by
  rw[List.nodup_cons] at hn
  have hx:=h x (List.mem_cons_self ..)
  have h1:=zeL (l:=l) (m:=m.filter fun q=>decide (q≠x)) hn.2 fun q hq=>by
   have hne:q≠x:=fun e=>hn.1 (e▸hq)
   exact List.mem_filter.2 ⟨h q (List.mem_cons_of_mem _ hq),by simpa using hne⟩
  have h2:(m.filter fun q=>decide (q≠x)).length<m.length:=List.length_filter_lt_length_iff_exists.2 ⟨x,hx,by simp⟩
  simp only [List.length_cons];omega
theorem zcq {l m:List ByteArray}(h1:l.Nodup)(h2:m.Nodup)(h:∀q,q∈l↔q∈m):l.length=m.length:=
 Nat.le_antisymm (zeL h1 fun q hq=>(h q).1 hq) (zeL h2 fun q hq=>(h q).2 hq)
theorem ziG {l m:List ByteArray}(h1:l.Nodup)(hl:m.length≤l.length)(h:∀q∈l,q∈m):∀q∈m,q∈l:=fun q hq=>by
 apply Classical.byContradiction
 intro hn
 have:=zeL (l:=q::l) (m:=m) (List.nodup_cons.2 ⟨hn,h1⟩) fun x hx=>by
  rcases List.mem_cons.1 hx with rfl|hx
  ·exact hq
  ·exact h x hx
 simp only [List.length_cons] at this;omega
theorem ziH (x:ByteArray):∀ss:List ByteArray,ss.Pairwise (fun a b=>blt a b=true)→∃s2:List ByteArray,s2.Pairwise (fun a b=>blt a b=true)∧∀q,q∈s2↔q=x∨q∈ss
 | [],_=>⟨[x],List.pairwise_singleton ..,by simp⟩
 |y::ss,h=>by
  rw[List.pairwise_cons] at h
  rcases zfd x y with hb|rfl|hb
  ·refine ⟨x::y::ss,List.pairwise_cons.2 ⟨fun q hq=>?_,List.pairwise_cons.2 h⟩,by simp⟩
   rcases List.mem_cons.1 hq with rfl|hq
   ·exact hb
   ·exact ZD hb (h.1 q hq)
  ·exact ⟨x::ss,List.pairwise_cons.2 h,by simp⟩
  ·obtain ⟨s2,h1,h2⟩:=ziH x ss h.2
   refine ⟨y::s2,List.pairwise_cons.2 ⟨fun q hq=>?_,h1⟩,fun q=>?_⟩
   ·rcases (h2 q).1 hq with rfl|hq
    ·exact hb
    ·exact h.1 q hq
   ·simp only [List.mem_cons,h2]
    constructor<;>rintro (h|h|h)<;>simp [h]
theorem zjp (l:List ByteArray):∃ss:List ByteArray,ss.Pairwise (fun a b=>blt a b=true)∧∀q,q∈ss↔q∈l:=by
 induction l with
 |nil=>exact ⟨[],.nil,by simp⟩
 |cons x l ih=>
  obtain ⟨ss,h1,h2⟩:=ih
  obtain ⟨s2,h3,h4⟩:=ziH x ss h1
  exact ⟨s2,h3,fun q=>by rw[h4,h2,List.mem_cons]⟩
theorem zgh (m1 m2:List (ByteArray×Tree)):∃ss,zbB m1 m2 ss:=by
 obtain ⟨ss,h1,h2⟩:=zjp (m1.map (·.1)++m2.map (·.1))
 exact ⟨ss,h1,fun q=>by rw[h2,List.mem_append]⟩
theorem zpE {c:Tree→Tree→Int}{e:Tree→Tree→Bool}{m1 m2:List (ByteArray×Tree)}(hn1:(m1.map (·.1)).Nodup)(hn2:(m2.map (·.1)).Nodup)(h:∀x∈m1,∀y∈m2,(c x.2 y.2=0↔e x.2 y.2=true)):
  zbO c m1 m2 0 (zdm m1 m2)=0↔zeI e m1 m2=true:=by
 have hu:=zmq m1 m2 (zgh m1 m2)
 have hun:=zcf hu.1
 have hk:∀(m:List (ByteArray×Tree)) (k:ByteArray),(Zg m k).isSome=true↔k∈m.map (·.1):=fun m k=>⟨fun h=>by
  obtain ⟨t,ht⟩:=Option.isSome_iff_exists.1 h
  exact List.mem_map_of_mem (zbP ht),zgL⟩
 have len:∀m:List (ByteArray×Tree),(∀k∈zdm m1 m2,k∈m.map (·.1))→(zdm m1 m2).length≤m.length:=fun m h=>by
  have:=zeL hun h
  rwa[List.length_map] at this
 rw[zfL (zdm m1 m2) 0]
 ·unfold zeI eqM
  simp only [Bool.and_eq_true,decide_eq_true_eq,List.all_eq_true]
  constructor
  ·intro hz
   have s1:∀k∈zdm m1 m2,k∈m1.map (·.1):=fun k hk'=>by obtain ⟨x,y,hx,_,_⟩:=hz k hk';exact (hk m1 k).1 (by rw[hx];rfl)
   have s2:∀k∈zdm m1 m2,k∈m2.map (·.1):=fun k hk'=>by obtain ⟨x,y,_,hy,_⟩:=hz k hk';exact (hk m2 k).1 (by rw[hy];rfl)
   have e1:=zcq hun hn1 fun q=>⟨s1 q,fun hq=>(hu.2 q).2 (.inl hq)⟩
   have e2:=zcq hun hn2 fun q=>⟨s2 q,fun hq=>(hu.2 q).2 (.inr hq)⟩
   rw[List.length_map] at e1 e2
   refine ⟨by omega,fun p hp=>?_⟩
   obtain ⟨x,y,hx,hy,hc⟩:=hz p.1 ((hu.2 p.1).2 (.inr (List.mem_map_of_mem hp)))
   have hp':=zbw hn2 (k:=p.1) (v:=p.2) hp
   rw[hy] at hp';cases hp'
   unfold eqK;rw[hx]
   exact (h (p.1,x) (zbP hx) p hp).1 hc
  ·rintro ⟨hl,hall⟩ k hk'
   have sub:∀q∈m2.map (·.1),q∈m1.map (·.1):=fun q hq=>by
    obtain ⟨p,hp,rfl⟩:=List.mem_map.1 hq
    have:=hall p hp
    unfold eqK at this
    split at this
    ·next x hx=>exact (hk m1 p.1).1 (by rw[hx];rfl)
    ·cases this
   have sup:=ziG hn2 (by simp;omega) sub
   have hk2:k∈m2.map (·.1):=by
    rcases (hu.2 k).1 hk' with h1|h1
    ·exact sup k h1
    ·exact h1
   obtain ⟨y,hy⟩:=Option.isSome_iff_exists.1 ((hk m2 k).2 hk2)
   have:=hall _ (zbP hy)
   unfold eqK at this
   split at this
   ·next x hx=>exact ⟨x,y,hx,hy,(h (k,x) (zbP hx) (k,y) (zbP hy)).2 this⟩
   ·cases this
 ·by_cases ha:∀k∈zdm m1 m2,(Zg m1 k).isSome=true∧(Zg m2 k).isSome=true
  ·exact .inl (by have:=len m1 fun k hk'=>(hk m1 k).1 (ha k hk').1;omega)
  ·exact .inr ha
 ·by_cases ha:∀k∈zdm m1 m2,(Zg m1 k).isSome=true∧(Zg m2 k).isSome=true
  ·exact .inl (by have:=len m2 fun k hk'=>(hk m2 k).1 (ha k hk').2;omega)
  ·exact .inr ha
theorem zor (n:Int):∀{f:Nat},ziA f f=some .eq→(∃o,ziA (zgd n) f=some o)∧∃o,ziA f (zgd n)=some o:=fun h=>
 ⟨zgM (zeK n) (zeJ h),zgM (zeJ h) (zeK n)⟩
theorem znF:∀(n:Nat) (x y:Tree),dep x≤n→z8 x→z8 y→ziD x→ziD y→(ziB n x y=0↔eqF n x y=true)
 |0,x,y,h,_,_,_,_=>by have:=zgg x;omega
 |n+1,x,y,h,hx,hy,ox,oy=>by
  unfold ziB eqF
  cases x<;>cases y<;>simp only [ztF,eqT]<;>(try (simp;done))
  case float.float a b=>exact zfK (zgM (zeJ ox) (zeJ oy))
  case float.int a b=>exact zfK (zor b ox).2
  case int.float a b=>exact zfK (zor a oy).1
  case int.int a b=>unfold zT;rw[decide_eq_true_eq];split<;>(try split)<;>omega
  case bool.bool a b=>cases a<;>cases b<;>simp [ztD]
  case str.str a b=>
   rw[zcz,decide_eq_true_eq]
   exact ⟨fun h=>by cases a;cases b;simp only [Array.toList_inj] at h;subst h;rfl,fun h=>by rw[h]⟩
  case list.list l m=>
   simp only [z8] at hx hy
   simp only [dep] at h
   exact zj9 fun a ha b hb=>znF n a b (by have:=zdJ ha;omega) (hx.2.mem a ha) (hy.2.mem b hb) (ziF ox a ha) (ziF oy b hb)
  case map.map l m=>
   simp only [z8] at hx hy
   simp only [dep] at h
   exact zpE hx.2.1 hy.2.1 fun a ha b hb=>znF n a.2 b.2 (by have:=zdK ha;omega) (hx.2.2.mem a ha) (hy.2.2.mem b hb) (ziE ox a ha) (ziE oy b hb)
theorem zdL (S:Nat→Prop)(w:World){kind n:Int}{f:Nat}{s:ByteArray}(ok:GVok kind n f s [] []):RepGV S w (.mk kind n f s [] []) [.int .i64 kind,.int .i64 n,.float .f64 f,.string s,.slice none 0 0,.slice none 0 0]:=
 RepGV.close (keys:=[]) (l:=[]) ok (Nat.zero_le _) (Nat.zero_le _) RowOf.nil RowOf.nil
theorem ztG:∀v,znx v:=by
 intro v
 induction v using GV.ind with
 |h kind n f s keys l IH=>
 intro cs w S hv
 obtain ⟨ka,kc,la,lc,rfl,ok,hkc,hlc,hks,hls⟩:=hv.open
 obtain ⟨nk,hnk⟩:∃n,keys.length=n:=⟨_,rfl⟩
 obtain ⟨nl,hnl⟩:∃n,l.length=n:=⟨_,rfl⟩
 have hn:=ok.okN
 have hf:=ok.okF
 have hs:=ok.okS
 have h2:=ok.okL
 have HC:Hid (zz (.mk kind n f s keys l)=if kind=1 then .mk 1 (if n=0 then 0 else 1) 0 ⟨#[]⟩ [] [] else if kind=2 then .mk 2 n 0 ⟨#[]⟩ [] [] else if kind=3 then .mk 3 0 f ⟨#[]⟩ [] []
  else if kind=4 then .mk 4 0 0 s [] [] else if kind=5 then .mk 5 0 0 ⟨#[]⟩ [] (cleans l) else if kind=6 then zcI (Zi keys (cleans l) []) else .mk 0 0 0 ⟨#[]⟩ [] []):=zz.eq_1 ..
 generalize hcl:zz (.mk kind n f s keys l)=cl at HC ⊢
 rw[hnk,hnl] at hv ⊢
 have Hk:=Lib.hid hnk;have Hl:=Lib.hid hnl
 have hE0:Ext w ((w.alloc (.cells #[.int .i64 kind,.int .i64 n,.float .f64 f,.string s,.slice ka nk kc,.slice la nl lc] 27)).alloc (.cells #[.int .i64 0,.int .i64 0,.float .f64 0,.string ⟨#[]⟩,.slice none 0 0,.slice none 0 0] 27)):=((Ext.refl w).alloc _).alloc _
 have hA0:=zev (.cells #[.int .i64 0,.int .i64 0,.float .f64 0,.string ⟨#[]⟩,.slice none 0 0,.slice none 0 0] 27) (zbU (w:=w) (.cells #[.int .i64 kind,.int .i64 n,.float .f64 f,.string s,.slice ka nk kc,.slice la nl lc] 27) rfl)
 have hB0:=zbU (w:=w.alloc (.cells #[.int .i64 kind,.int .i64 n,.float .f64 f,.string s,.slice ka nk kc,.slice la nl lc] 27)) (.cells #[.int .i64 0,.int .i64 0,.float .f64 0,.string ⟨#[]⟩,.slice none 0 0,.slice none 0 0] 27) (zC _ _)
 have hz0:w.heap.size+2≤((w.alloc (.cells #[.int .i64 kind,.int .i64 n,.float .f64 f,.string s,.slice ka nk kc,.slice la nl lc] 27)).alloc (.cells #[.int .i64 0,.int .i64 0,.float .f64 0,.string ⟨#[]⟩,.slice none 0 0,.slice none 0 0] 27)).heap.size:=by simp only [zC];omega
 go_enter func23,ntmps23
 go_upto_region 1 with fail
 generalize (w.alloc (.cells #[.int .i64 kind,.int .i64 n,.float .f64 f,.string s,.slice ka nk kc,.slice la nl lc] 27)).alloc (.cells #[.int .i64 0,.int .i64 0,.float .f64 0,.string ⟨#[]⟩,.slice none 0 0,.slice none 0 0] 27)=w2 at hE0 hA0 hB0 hz0 ⊢
 have HV:=Lib.hid (hv.ext hE0);have HLS:=Lib.hid (RepGVs.ext hls hE0)
 have a0:=zh hA0 (i:=0) rfl;have a1:=zh hA0 (i:=1) rfl;have a2:=zh hA0 (i:=2) rfl;have a3:=zh hA0 (i:=3) rfl;have a4:=zh hA0 (i:=4) rfl;have a5:=zh hA0 (i:=5) rfl
 have HE:=Lib.hid hE0;have HB:=Lib.hid hB0
 clear hv hls hks ok hE0 hA0 hB0 hkc hlc hcl
 have SN:∀v0 v1 v2 v3 v4 v5,Hid ((six w2 (w.heap.size+1) v0 v1 v2 v3 v4 v5).heap[w.heap.size+1]? =some (.cells #[v0,v1,v2,v3,v4,v5] 27 (0,0))∧Ext w (six w2 (w.heap.size+1) v0 v1 v2 v3 v4 v5)):=fun v0 v1 v2 v3 v4 v5=>⟨zgu HB.out _ _ _ _ _ _,zdg HE.out (by omega) _ _ _ _ _ _⟩
 by_cases k6:kind=6
 ·subst k6
  go_wp2_with fail
  refine (zin 6 n f s keys l IH _ _ S HV.out).mono ?_
  rintro e w1 ⟨u,rfl,⟨cu,rfl,hu⟩,hE1⟩
  have hE2:=HE.out.trans hE1
  have HB1:=Lib.hid (hE1.heap HB.out)
  obtain ⟨f0,f1,f2,f3,f4,f5,rfl⟩:=hu.list6
  obtain ⟨p0,p1,p2,p3,p4,p5⟩:=hu.six
  have HQ:Hid ((six w1 (w.heap.size+1) f0 f1 f2 f3 f4 f5).heap[w.heap.size+1]? =some (.cells #[f0,f1,f2,f3,f4,f5] 27 (0,0))):=zgu HB1.out _ _ _ _ _ _
  have HEq:Hid (Ext w (six w1 (w.heap.size+1) f0 f1 f2 f3 f4 f5)):=zdg hE2 (by omega) _ _ _ _ _ _
  have HRq:Hid (RepGV (w.heap.size≤ ·) (six w1 (w.heap.size+1) f0 f1 f2 f3 f4 f5) (zcI (Zi keys (cleans l) [])) [f0,f1,f2,f3,f4,f5]):=RepGV.frame (S':=(w.heap.size≤ ·)) ((zb7 w1 (w.heap.size+1) _ _ _ _ _ _).mono fun b hb=>by omega) (fun b hb=>by omega) hu
  clear hu hE1 hE2
  have hz:∀o,w1.frozen? ⟨w.heap.size+1,o,none⟩=false:=fun o=>by simp [World.frozen?,HB1.out]
  have g0:=zh HB1.out (i:=0) rfl;have g1:=zh HB1.out (i:=1) rfl;have g2:=zh HB1.out (i:=2) rfl;have g3:=zh HB1.out (i:=3) rfl;have g4:=zh HB1.out (i:=4) rfl;have g5:=zh HB1.out (i:=5) rfl
  go_wp2
  (try simp only [Exit.inBlock,Exit.then]);refine bodyPost_ret (zjm results23 rfl HQ.out) rfl ?_
  exact ⟨_,rfl,⟨_,rfl,by have:=HC.out;simp only [reduceIte,Int.reduceEq] at this;rw[this];exact HRq.out⟩,HEq.out⟩
 by_cases k5:kind=5
 ·subst k5
  go_wp2_with fail
  refine (zim l IH la nl lc _ S HLS.out Hl.out (by omega)).mono ?_
  rintro e w1 ⟨u,rfl,⟨A',c',rfl,hc',hu⟩,hE1⟩
  have hE2:=HE.out.trans hE1
  have HB1:=Lib.hid (hE1.heap HB.out)
  have HQ:Hid ((six w1 (w.heap.size+1) (.int .i64 5) (.int .i64 0) (.float .f64 0) (.string ⟨#[]⟩) (.slice none 0 0) (.slice A' nl c')).heap[w.heap.size+1]? =some (.cells #[.int .i64 5,.int .i64 0,.float .f64 0,.string ⟨#[]⟩,.slice none 0 0,.slice A' nl c'] 27 (0,0))):=zgu HB1.out _ _ _ _ _ _
  have HEq:Hid (Ext w (six w1 (w.heap.size+1) (.int .i64 5) (.int .i64 0) (.float .f64 0) (.string ⟨#[]⟩) (.slice none 0 0) (.slice A' nl c'))):=zdg hE2 (by omega) _ _ _ _ _ _
  have hll:(cleans l).length=nl:=by rw[zay,List.length_map,Hl.out]
  have HRq:Hid (RepGV (w.heap.size≤ ·) (six w1 (w.heap.size+1) (.int .i64 5) (.int .i64 0) (.float .f64 0) (.string ⟨#[]⟩) (.slice none 0 0) (.slice A' nl c')) (.mk 5 0 0 ⟨#[]⟩ [] (cleans l)) [.int .i64 5,.int .i64 0,.float .f64 0,.string ⟨#[]⟩,.slice none 0 0,.slice A' nl c']):=by
   have hr:=RepGVs.frame (S':=(w.heap.size≤ ·)) hu ((zb7 w1 (w.heap.size+1) (.int .i64 5) (.int .i64 0) (.float .f64 0) (.string ⟨#[]⟩) (.slice none 0 0) (.slice A' nl c')).mono fun b hb=>by omega) (fun b hb=>by omega)
   have:=RepGV.close (keys:=[]) (l:=cleans l) (kind:=5) (n:=0) (f:=0) (s:=⟨#[]⟩) (ka:=none) (kc:=0) (lc:=c') ⟨by omega,by omega,by omega,Nat.zero_le _,by simp,by simp,by rw[hll];omega⟩ (Nat.zero_le _) (by omega) RowOf.nil hr
   rw[hll] at this;exact this
  clear hu hE1 hE2
  have hz:∀o,w1.frozen? ⟨w.heap.size+1,o,none⟩=false:=fun o=>by simp [World.frozen?,HB1.out]
  have g0:=zh HB1.out (i:=0) rfl;have g1:=zh HB1.out (i:=1) rfl;have g2:=zh HB1.out (i:=2) rfl;have g3:=zh HB1.out (i:=3) rfl;have g4:=zh HB1.out (i:=4) rfl;have g5:=zh HB1.out (i:=5) rfl
  go_wp2
  (try simp only [Exit.inBlock,Exit.then]);refine bodyPost_ret (zjm results23 rfl HQ.out) rfl ?_
  exact ⟨_,rfl,⟨_,rfl,by have:=HC.out;simp only [reduceIte,Int.reduceEq] at this;rw[this];exact HRq.out⟩,HEq.out⟩
 have hz:∀o,w2.frozen? ⟨w.heap.size+1,o,none⟩=false:=fun o=>by simp [World.frozen?,HB.out]
 have g0:=zh HB.out (i:=0) rfl;have g1:=zh HB.out (i:=1) rfl;have g2:=zh HB.out (i:=2) rfl;have g3:=zh HB.out (i:=3) rfl;have g4:=zh HB.out (i:=4) rfl;have g5:=zh HB.out (i:=5) rfl
 by_cases k1:kind=1
 ·subst k1
  by_cases n0:n=0
  ·subst n0
   go_wp2
   (try simp only [Exit.inBlock,Exit.then]);refine bodyPost_ret (zjm results23 rfl (SN (.int .i64 1) (.int .i64 0) (.float .f64 0) (.string ⟨#[]⟩) (.slice none 0 0) (.slice none 0 0)).out.1) rfl ?_
   exact ⟨_,rfl,⟨_,rfl,by have:=HC.out;simp only [reduceIte,Int.reduceEq] at this;rw[this];exact zdL _ _ ⟨by omega,by omega,by omega,Nat.zero_le _,by simp,by simp,by simp⟩⟩,(SN _ _ _ _ _ _).out.2⟩
  ·have hnn:(n==0)=false:=by simp [n0]
   go_wp2
   (try simp only [Exit.inBlock,Exit.then]);refine bodyPost_ret (zjm results23 rfl (SN (.int .i64 1) (.int .i64 1) (.float .f64 0) (.string ⟨#[]⟩) (.slice none 0 0) (.slice none 0 0)).out.1) rfl ?_
   exact ⟨_,rfl,⟨_,rfl,by have:=HC.out;simp only [reduceIte,Int.reduceEq,n0] at this;rw[this];exact zdL _ _ ⟨by omega,by omega,by omega,Nat.zero_le _,by simp,by simp,by simp⟩⟩,(SN _ _ _ _ _ _).out.2⟩
 by_cases k2:kind=2
 ·subst k2
  go_wp2
  (try simp only [Exit.inBlock,Exit.then]);refine bodyPost_ret (zjm results23 rfl (SN (.int .i64 2) (.int .i64 n) (.float .f64 0) (.string ⟨#[]⟩) (.slice none 0 0) (.slice none 0 0)).out.1) rfl ?_
  exact ⟨_,rfl,⟨_,rfl,by have:=HC.out;simp only [reduceIte,Int.reduceEq] at this;rw[this];exact zdL _ _ ⟨by omega,by omega,by omega,Nat.zero_le _,by simp,by simp,by simp⟩⟩,(SN _ _ _ _ _ _).out.2⟩
 by_cases k3:kind=3
 ·subst k3
  go_wp2
  (try simp only [Exit.inBlock,Exit.then]);refine bodyPost_ret (zjm results23 rfl (SN (.int .i64 3) (.int .i64 0) (.float .f64 f) (.string ⟨#[]⟩) (.slice none 0 0) (.slice none 0 0)).out.1) rfl ?_
  exact ⟨_,rfl,⟨_,rfl,by have:=HC.out;simp only [reduceIte,Int.reduceEq] at this;rw[this];exact zdL _ _ ⟨by omega,by omega,by omega,Nat.zero_le _,by simp,by simp,by simp⟩⟩,(SN _ _ _ _ _ _).out.2⟩
 by_cases k4:kind=4
 ·subst k4
  go_wp2
  (try simp only [Exit.inBlock,Exit.then]);refine bodyPost_ret (zjm results23 rfl (SN (.int .i64 4) (.int .i64 0) (.float .f64 0) (.string s) (.slice none 0 0) (.slice none 0 0)).out.1) rfl ?_
  exact ⟨_,rfl,⟨_,rfl,by have:=HC.out;simp only [reduceIte,Int.reduceEq] at this;rw[this];exact zdL _ _ ⟨by omega,by omega,by omega,by omega,by simp,by simp,by simp⟩⟩,(SN _ _ _ _ _ _).out.2⟩
 have b1:(kind==1)=false:=by simp [k1]
 have b2:(kind==2)=false:=by simp [k2]
 have b3:(kind==3)=false:=by simp [k3]
 have b4:(kind==4)=false:=by simp [k4]
 have b5:(kind==5)=false:=by simp [k5]
 have b6:(kind==6)=false:=by simp [k6]
 go_wp2
 (try simp only [Exit.inBlock,Exit.then]);refine bodyPost_ret (zjm results23 rfl (SN (.int .i64 0) (.int .i64 0) (.float .f64 0) (.string ⟨#[]⟩) (.slice none 0 0) (.slice none 0 0)).out.1) rfl ?_
 exact ⟨_,rfl,⟨_,rfl,by have:=HC.out;rw[if_neg k1,if_neg k2,if_neg k3,if_neg k4,if_neg k5,if_neg k6] at this;rw[this];exact zdL _ _ ⟨by omega,by omega,by omega,Nat.zero_le _,by simp,by simp,by simp⟩⟩,(SN _ _ _ _ _ _).out.2⟩
theorem zos {n:Int}(h: -9223372036854775808≤n∧n≤9223372036854775807):Zj (.int .i64 n)=true:=by simp [Zj,zao,h]
theorem zrF {S:Nat→Prop}{w:World}{A:Option Addr}{c:Nat}{ss:List ByteArray}(h:RepStrs S w A ss)(hc:ss.length≤c)(hb:ss.length*16≤140737488351232)(hs:∀s∈ss,s.size≤140737488351232):
  RepD prog w S (zav ss) (.slice A ss.length c):=by
 refine RepD.sl_iff.2 ⟨A,c,by simp [zbA],by simpa [zbA] using hc,by simpa [zbA] using hb,fun j r hj=>?_⟩
 rw[zbA,List.getElem?_map] at hj
 obtain ⟨s,hs',rfl⟩:=Option.map_eq_some_iff.1 hj
 refine ⟨by simp,fun _=>?_⟩
 obtain ⟨ad,cs,ha,hS,hr,_,hcs⟩:=h j s hs'
 cases hr
 refine ⟨ad,ha,fun i d hi=>?_⟩
 match i,hi with
 |0,hi=>
  simp at hi;subst hi
  exact ⟨_,by rw[zE];exact hS,by simpa using hcs 0 _ rfl,.v (by simpa [Zj] using hs s (List.mem_of_getElem? hs'))⟩
theorem zka:∀{g:GV} {S:Nat→Prop} {w:World} {cs:List Value},RepGV S w g cs→All2 (RepD prog w S) (gvD g) cs:=by
 intro g
 induction g using GV.ind with
 |h kind n f s keys l IH=>
 intro S w cs h
 obtain ⟨ka,kc,la,lc,rfl,ok,hkc,hlc,hks,hls⟩:=h.open
 rw[zaa]
 refine .cons (.v (zos ok.okKind)) (.cons (.v (zos ok.okN)) (.cons (.v (by simpa [Zj] using ok.okF)) (.cons (.v (by simpa [Zj] using ok.okS)) (.cons (zrF hks hkc ok.okKeys ok.okEach) (.cons ?_ .nil)))))
 refine (RepD.sl_iff (E:=27) (xs:=l.map gvD)).2 ⟨la,lc,by simp,by simpa using hlc,by simpa using ok.okL,fun j r hj=>?_⟩
 rw[List.getElem?_map] at hj
 obtain ⟨x,hx,rfl⟩:=Option.map_eq_some_iff.1 hj
 refine ⟨by simp,fun _=>?_⟩
 obtain ⟨ad,cs,ha,hS,hr,_,hcs⟩:=hls j x hx
 have:=IH x (List.mem_of_getElem? hx) hr
 refine ⟨ad,ha,fun i d hi=>?_⟩
 obtain ⟨u,hu,hd⟩:=this.at hi
 exact ⟨u,by rw[zE];exact hS,by simpa using hcs i u hu,hd⟩
theorem zgi {S:Nat→Prop}{β:Nat→Value}{h:Nat→Option Ow}{w:World}{xs:List D}{us:List Value}:All2 (RepC prog S β h w) (cls xs) us↔All2 (RepD prog w S) xs us:=by
 constructor
 ·intro k
  induction xs generalizing us with
  |nil=>cases k;exact .nil
  |cons x xs ih=>cases k with|cons k t=>exact .cons k (ih t)
 ·intro k
  induction k with
  |nil=>exact .nil
  |cons k t ih=>exact .cons k ih
theorem zrG {S:Nat→Prop}{w:World}{ss:List ByteArray}{v:Value}(h:RepD prog w S (zav ss) v):∃A c,v= .slice A ss.length c∧ss.length≤c∧ss.length*16≤140737488351232∧RepStrs S w A ss∧∀s∈ss,s.size≤140737488351232:=by
 have hk:=zlf ⟨w,S,v,h⟩
 obtain ⟨A,c,rfl,hc,_,hr⟩:=RepD.sl_iff.1 h
 simp only [zbA,List.length_map] at*
 refine ⟨A,c,rfl,hc,hk.1,fun j s hj=>?_,hk.2⟩
 obtain ⟨ad,ha,hrow⟩:=(hr j [dS s] (by simp [hj])).2 (by simp)
 obtain ⟨u,hS,hcell,hd⟩:=hrow 0 (dS s) rfl
 cases hd
 rw[zE] at hS
 refine ⟨ad,[.string s],ha,hS,rfl,rfl,fun i u hu=>?_⟩
 match i,hu with
 |0,hu=>simp at hu;subst hu;simpa using hcell
theorem zpF:∀{g:GV} {S:Nat→Prop} {w:World} {cs:List Value},All2 (RepD prog w S) (gvD g) cs→RepGV S w g cs:=by
 intro g
 induction g using GV.ind with
 |h kind n f s keys l IH=>
 intro S w cs h
 have hok:=zok (kind:=kind) (n:=n) (f:=f) (s:=s) (keys:=keys) (l:=l) ⟨w,S,.agg cs.toArray,cs,rfl,zgi.2 h⟩
 rw[zaa] at h
 obtain ⟨c0,_,rfl,h0,h⟩:=h.inv
 obtain ⟨c1,_,rfl,h1,h⟩:=h.inv
 obtain ⟨c2,_,rfl,h2,h⟩:=h.inv
 obtain ⟨c3,_,rfl,h3,h⟩:=h.inv
 obtain ⟨c4,_,rfl,h4,h⟩:=h.inv
 obtain ⟨c5,_,rfl,h5,h⟩:=h.inv
 cases h.inv0
 cases h0;cases h1;cases h2;cases h3
 obtain ⟨ka,kc,rfl,hkc,_,hks,_⟩:=zrG h4
 obtain ⟨la,lc,rfl,hlc,_,hr⟩:=(RepD.sl_iff (E:=27) (xs:=l.map gvD)).1 h5
 rw[List.length_map] at hlc ⊢
 refine RepGV.close ⟨hok.hkind,hok.hn,hok.hf,hok.hs,hok.hkeys,hok.hkey,hok.hl⟩ hkc hlc hks fun j x hj=>?_
 obtain ⟨ad,ha,hrow⟩:=(hr j (gvD x) (by simp [hj])).2 (by simp)
 have key:∃us:List Value,All2 (RepD prog w S) (gvD x) us∧(∀i u,us[i]? =some u→w.cell? ((ad.add (j*6)).add i)=some u)∧S ad.block:=by
  refine ⟨(List.range 6).map fun i=>(w.cell? ((ad.add (j*6)).add i)).getD undef,All2.of (by simp) fun i d u hi hu=>?_,fun i u hu=>?_,?_⟩
  ·obtain ⟨u',_,hc,hd⟩:=hrow i d hi
   rw[List.getElem?_map] at hu
   obtain ⟨i',hi',rfl⟩:=Option.map_eq_some_iff.1 hu
   obtain ⟨hlt,rfl⟩:=List.getElem?_eq_some_iff.1 hi'
   simp only [zmf] at hc
   simp only [List.getElem_range,hc,Option.getD_some];exact hd
  ·rw[List.getElem?_map] at hu
   obtain ⟨i',hi',rfl⟩:=Option.map_eq_some_iff.1 hu
   obtain ⟨hlt,rfl⟩:=List.getElem?_eq_some_iff.1 hi'
   simp only [List.length_range] at hlt
   have hlt':i<(gvD x).length:=by rw[zio];exact hlt
   obtain ⟨u',_,hc,_⟩:=hrow i ((gvD x)[i]'hlt') (List.getElem?_eq_getElem hlt')
   simp only [zmf] at hc
   simp only [List.getElem_range,hc,Option.getD_some]
  ·have hlt':0<(gvD x).length:=by rw[zio];decide
   obtain ⟨u',hS,_,_⟩:=hrow 0 ((gvD x)[0]'hlt') (List.getElem?_eq_getElem hlt')
   rwa[zE] at hS
 obtain ⟨us,h1,h2,h3⟩:=key
 have:=IH x (List.mem_of_getElem? hj) h1
 exact ⟨ad,us,ha,h3,this,this.length,fun i u hu=>h2 i u hu⟩
theorem zhE {S:Nat→Prop}{β:Nat→Value}{h:Nat→Option Ow}{w:World}{g:GV}{v:Value}:RepA prog S β h w (gvA g) v↔∃cs,v= .agg (List.toArray cs)∧RepGV S w g cs:=
 ⟨fun ⟨us,h1,h2⟩=>⟨us,h1,zpF (zgi.1 h2)⟩,fun ⟨us,h1,h2⟩=>⟨us,h1,zgi.2 (zka h2)⟩⟩
theorem zrH {f:FuncId}{args:List Av}(h:ACalls prog f args (fun r=>r=aV (.bool true))){W:World}{vs:List Value}(ha:All2 (RepA prog (fun _=>True) noB noH W) args vs):Calls prog f vs.toArray W (Makes (fun _ u=>u= .bool true) W):=by
 refine (h.2 W (· <W.heap.size) vs (fun _ h=>h) (ha.imp fun x v _ r=>r.imp r.noH fun d u k=>k.lt.mono fun b hb=>hb.2)).mono ?_
 rintro e w' ⟨v,r,rfl,rfl,hr,hE⟩
 obtain ⟨rfl,_⟩:=ZR hr
 exact ⟨_,rfl,rfl,hE⟩
theorem zgj (g:GV):ACalls prog 23 [gvA g] (fun r=>r=gvA (zz g)):=by
 refine ⟨⟨_,func23,by kernel_rfl,rfl⟩,fun w S vs hS ha=>?_⟩
 cases ha with
 |cons h t=>
 cases t
 obtain ⟨cs,rfl,hg⟩:=zhE.1 h
 refine (ztG g cs w S hg).mono ?_
 rintro e w' ⟨v,rfl,⟨cs',rfl,hr⟩,hE⟩
 exact ⟨_,_,rfl,rfl,zhE.2 ⟨cs',rfl,hr.mono fun b hb=>.inr hb⟩,hE⟩
mutual
def zW:GV→Bool
 | .mk kind n f _ _ l=>if kind=2 then decide (-9007199254740992≤n) && decide (n≤9007199254740992) else if kind=3 then FloatKind.f64.format.order f f==some .eq else if kind=5∨kind=6 then orderlys l else true
def orderlys:List GV→Bool
 | []=>true
 |x::l=>zW x && orderlys l
end
theorem zdn:∀l,orderlys l=l.all zW
 | []=>by simp [orderlys]
 |x::l=>by simp [orderlys,zdn l]
theorem zkb (g:GV):ACalls prog 64 [gvA g] (fun r=>r=aV (.bool (zW g))):=by
 induction g using GV.ind with
 |h kind n f s keys l IH=>
 refine zg [] func64 (by kernel_rfl) rfl ntmps64 results64 (Nat.le_of_ble_eq_true (by kernel_rfl)) ?_;intro hok w0 S0
 have hk:=zok (hok _ (List.mem_singleton_self _))
 have hl:=hk.hl
 have hl2:l.length≤9223372036854775807:=by omega
 simp only [gvA,zaa,ZS,zaW]
 clear hok hk hl
 (repeat' (first|(with_reducible first|refine zl (fun _=>?_) (fun _=>?_)|refine zk (fun _=>?_) (fun _=>?_)|refine zm zd (by kernel_rfl) ?_|exact zc rfl)|(simp -dsimp [hl2])));(all_goals try with_reducible refine zc ?_)
 all_goals first
  |(simp_all [zW];done)
  |(simp_all [zW];omega)
  |skip
 all_goals
  have H:zW (.mk kind n f s keys l)=l.all zW:=by simp_all [zW,zdn]
  rw[H]
  clear H
  refine zJ (fun i:Nat=>⟨[(28,.c (.d (zbI l))),(29,aV (.int .i64 l.length)),(30,aV (.int .i64 i))],[]⟩) (fun i=>i≤l.length∧∀(j:Nat) (h:j<l.length),j<i→zW l[j]=true) (fun i=>l.length - i) 0 ?_ ⟨Nat.zero_le _,fun j x h=>by omega⟩ ?_
  ·exact Weak.same (by simp -dsimp) (by simp -dsimp) (by first|rfl|(simp [zj,Av.ids,Ow.ids,Cl.ids,Go.Smd.keys];done))
  ·rintro i ⟨hi,hall⟩ K hK
   by_cases hlt:i<l.length
   ·have hw:IntKind.wrap .i64 ((i:Int)+1)=((i+1:Nat):Int):=by rw[zy]<;>omega
    (repeat' (first|(with_reducible first|refine zl (fun _=>?_) (fun _=>?_)|refine zk (fun _=>?_) (fun _=>?_)|refine zt (IH l[i] (List.getElem_mem hlt)) (by first|rfl|(simp -dsimp [hl2,hlt,hw];done)) ?_|refine zm zd (by kernel_rfl) ?_|exact zc rfl)|(simp -dsimp [hl2,hlt,hw])));(all_goals try with_reducible refine zc ?_)
    ·rename_i hn
     have:l.all zW=false:=List.all_eq_false.2 ⟨l[i],List.getElem_mem hlt,by simpa using hn⟩
     rw[this]
    ·rename_i hn
     refine hK _ (i+1) ?_ ⟨by omega,fun j h hj=>?_⟩ (by omega)
     ·exact Weak.same (by simp -dsimp) (by simp -dsimp) (by first|rfl|(simp [zj,Av.ids,Ow.ids,Cl.ids,Go.Smd.keys];done))
     ·by_cases e:j=i
      ·subst e;simpa using hn
      ·exact hall j h (by omega)
   ·(repeat' (first|(with_reducible first|refine zl (fun _=>?_) (fun _=>?_)|refine zk (fun _=>?_) (fun _=>?_)|refine zm zd (by kernel_rfl) ?_|exact zc rfl)|(simp -dsimp [hl2,hlt])));(all_goals try with_reducible refine zc ?_)
    have:l.all zW=true:=List.all_eq_true.2 fun x hx=>by
     obtain ⟨j,hj,rfl⟩:=List.getElem_of_mem hx
     exact hall j hj (by omega)
    rw[this]
abbrev aS (s:ByteArray):Av:=.c (.d (dS s))
abbrev aI (n:Int):Av:=.c (.d (dI n))
theorem ztH (g:GV):ACalls prog 129 [gvA g] (fun r=>r= .c (.d (.tr (zp g)))):=by
 refine ⟨⟨_,func129,by kernel_rfl,rfl⟩,fun w S vs hS ha=>?_⟩
 cases ha with
 |cons h t=>
 cases t
 obtain ⟨cs,rfl,hg⟩:=zhE.1 h
 refine (zsK g cs w S hg).mono ?_
 rintro e w' ⟨v,rfl,hr,hE⟩
 exact ⟨_,_,rfl,rfl,(RepD.tr hr).mono fun b hb=>.inr hb,hE⟩
theorem ztI (t:Tree):ACalls prog 128 [.c (.d (.tr t))] (fun r=>r= .c (.d (dV t))):=by
 refine zg [] func128 (by kernel_rfl) rfl ntmps128 results128 (Nat.le_of_ble_eq_true (by kernel_rfl)) ?_;intro hok w0 S0
 (repeat' (first|(with_reducible first|refine zl (fun _=>?_) (fun _=>?_)|refine zk (fun _=>?_) (fun _=>?_))|((with_reducible apply zbH [] (f:=181));(case hc=>simp -dsimp;first|exact ⟨rfl,rfl⟩|exact ⟨rfl,rfl,rfl⟩);(case hf=>exact func181);(case hA=>simp -dsimp<;>with_reducible rfl);(case hok=>simp -dsimp);(case hY=>simp -dsimp<;>with_reducible rfl);(case hO=>simp -dsimp<;>with_reducible rfl);(case hn=>kernel_rfl);(case hb=>rfl);(case hN=>exact ntmps181);(case hrs=>exact results181);(case hl=>exact Nat.le_of_ble_eq_true (by kernel_rfl));intro hok w0 S0)|((with_reducible apply zbZ (ρ:=[(1000000000,6004)]) 7 (zea (.tr t) (.v .nilIface)));(case hc=>simp -dsimp<;>first|exact ⟨rfl,rfl,rfl⟩|exact ⟨rfl,rfl⟩|done);(case hx=>simp -dsimp<;>with_reducible rfl);(case ho=>simp -dsimp);(case hh=>simp -dsimp);(case hb=>simp -dsimp))|(with_reducible first|refine zm zd (by kernel_rfl) ?_|exact zc rfl)|(simp -dsimp)));(all_goals try with_reducible refine zc ?_)
theorem zkc (g:GV):ACalls prog 71 [gvA g] (fun r=>r= .c (.d (dV (zp g)))):=by
 refine zg [] func71 (by kernel_rfl) rfl ntmps71 results71 (Nat.le_of_ble_eq_true (by kernel_rfl)) ?_;intro hok w0 S0
 (repeat' (first|(with_reducible first|refine zl (fun _=>?_) (fun _=>?_)|refine zk (fun _=>?_) (fun _=>?_)|refine zt (ztH _) (by first|rfl|(simp -dsimp;done)) ?_|refine zt (ztI _) (by first|rfl|(simp -dsimp;done)) ?_|refine zm zd (by kernel_rfl) ?_|exact zc rfl)|(simp -dsimp)));(all_goals try with_reducible refine zc ?_)
noncomputable def zmr (x y:Tree):Int:=ziB (dep x) x y
def eqV (x y:Tree):Bool:=eqF (dep x) x y
theorem zfM (x y:Tree)(hx:z8 x)(hy:z8 y):ACalls prog 200 [.c (.d (dV x)),.c (.d (dV y))] (fun r=>r=aV (.int .i64 (zmr x y))):=by
 refine zg [] func200 (by kernel_rfl) rfl ntmps200 results200 (Nat.le_of_ble_eq_true (by kernel_rfl)) ?_;intro hok w0 S0
 (repeat' (first|(with_reducible first|refine zl (fun _=>?_) (fun _=>?_)|refine zk (fun _=>?_) (fun _=>?_)|refine zt (zgN (dep x) x y (Nat.le_refl _) hx hy) (by first|rfl|(simp -dsimp;done)) ?_|refine zm zd (by kernel_rfl) ?_|exact zc rfl)|(simp -dsimp)));(all_goals try with_reducible refine zc ?_)
theorem zfg (x y:Tree)(hx:z8 x)(hy:z8 y):ACalls prog 206 [.c (.d (dV x)),.c (.d (dV y))] (fun r=>r=aV (.bool (eqV x y))):=by
 refine zg [] func206 (by kernel_rfl) rfl ntmps206 results206 (Nat.le_of_ble_eq_true (by kernel_rfl)) ?_;intro hok w0 S0
 (repeat' (first|(with_reducible first|refine zl (fun _=>?_) (fun _=>?_)|refine zk (fun _=>?_) (fun _=>?_)|refine zt (ziC (dep x) x y (Nat.le_refl _) hx hy) (by first|rfl|(simp -dsimp;done)) ?_|refine zm zd (by kernel_rfl) ?_|exact zc rfl)|(simp -dsimp)));(all_goals try with_reducible refine zc ?_)
theorem zot {g:GV}(h:okA prog (gvA g)):z8 (zp g):=by
 obtain ⟨w,S,v,hr⟩:=h
 obtain ⟨cs,_,hg⟩:=zhE.1 hr
 exact zpD hg
theorem zou:∀{l:List Tree},(∀x∈l,ziD x)→ordL l
 | [],_=>trivial
 |x::l,h=>⟨h x (List.mem_cons_self ..),zou fun y hy=>h y (List.mem_cons_of_mem _ hy)⟩
theorem zov:∀{l:List (ByteArray×Tree)},(∀x∈l,ziD x.2)→ordM l
 | [],_=>trivial
 |x::l,h=>⟨h x (List.mem_cons_self ..),zov fun y hy=>h y (List.mem_cons_of_mem _ hy)⟩
theorem zkd {Q:Tree→Prop}:∀(ks:List ByteArray) (ts:List Tree) (m:zaK),(∀p∈m,Q p.2)→(∀t∈ts,Q t)→∀p∈ZE ks ts m,Q p.2
 | [],ts,m,h2,_=>by cases ts<;>simpa [ZE] using h2
 |k::ks,[],m,h2,_=>by simpa [ZE] using h2
 |k::ks,t::ts,m,h2,h3=>by
  simp only [ZE]
  exact zkd ks ts (ins k t m) (fun p hp=>by
   rcases znE hp with rfl|hp
   ·exact h3 t (List.mem_cons_self ..)
   ·exact h2 p hp) fun t ht=>h3 t (List.mem_cons_of_mem _ ht)
theorem zrI (g:GV):zW g=true→ziD (zp g):=by
 induction g using GV.ind with
 |h kind n f s keys l IH=>
 intro h
 have hl:kind=5∨kind=6→∀t∈treesOf l,ziD t:=fun hk t ht=>by
  rw[ZJ] at ht
  obtain ⟨x,hx,rfl⟩:=List.mem_map.1 ht
  refine IH x hx ?_
  have:orderlys l=true:=by
   unfold zW at h
   rcases hk with rfl|rfl<;>simpa using h
  rw[zdn] at this
  exact List.all_eq_true.1 this x hx
 simp only [zp]
 split
 ·trivial
 ·split
  ·trivial
  ·split
   ·next h3=>
    subst h3
    simpa [zW,ziD,ziA] using h
   ·split
    ·trivial
    ·split
     ·next h5=>exact zou (hl (.inl h5))
     ·split
      ·next h6=>exact zov (zkd keys _ [] (by simp) (hl (.inr h6)))
      ·trivial
end Go.Smd
end
