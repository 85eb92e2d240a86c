/- Part 37 of the proof: Ki Kj Pc Pe La Lc Ld. -/
import Derived.Test.YtdgnolbdcmgfoaaGreatQO36
import Derived.Test.YtdgnolbdcmgfoaaGreatQO32
import Derived.Test.YtdgnolbdcmgfoaaGreatQO27
set_option linter.unusedVariables false
set_option linter.unusedSimpArgs false
set_option maxRecDepth 100000
set_option maxHeartbeats 8000000
section
namespace Go.Smd
open Go.RowKit Go.Proofs Go.Proofs.Tryz
abbrev zwT:Ow:=.clo (.fn 226) [.own 1000000000 0,.own 1000000001 0]
noncomputable abbrev ze4 (p:List EV)(A:List EV):List (List D):=A.map fun e=>[ZT ((p++ [e]).map cE)]
noncomputable abbrev zlw (v:Value)(p:List EV)(ver:Nat)(R:List (List D)):List (Nat×Ow):=
 [(1000000000,.cells [.fn 1000000004] tFP),(1000000001,.cells [.d (.v v)] tLP),(1000000002,.cells [.gs 1000000003 ver] zdx),(1000000003,.arr ver tSP R),(1000000004,ze3),(1000000005,.clo (.pin v tPE (p.map eD)) []),(1000000006,zwT)]
theorem zsy (v:Value)(ver:Nat)(R:List (List D))(p A:List EV)(hv:IsPin v p.length)(hp:∀x∈p,GoodE x)(hA:∀x∈A,GoodE x)(hm:(p.length+1)*168≤140737488351232)(hl:A.length≤4000000000000)(hb:(R.length+A.length)*24≤140737488351232):
  AProc prog 225 [.c (.d (.pt [.sl tPE (A.map eD)])),.c (.fn 1000000006)] (zlw v p ver R)
   (fun r own'=>r= .tup []∧own'=zlw v p (ver+A.length) (R++ze4 p A)):=by
 have b1:A.length≤9223372036854775807:=by omega
 unfold zlw
 refine zap [] func225 (by kernel_rfl) rfl ntmps225 results225 (Nat.le_of_ble_eq_true (by kernel_rfl)) ?_;intro hok w0 S0
 (repeat' (first|(with_reducible first|refine zl (fun _=>?_) (fun _=>?_)|refine zk (fun _=>?_) (fun _=>?_)|refine zm zd (by kernel_rfl) ?_|exact zc rfl)|(simp -dsimp [b1])));(all_goals try with_reducible refine zc ?_)
 refine zJ (fun i:Nat=>⟨[(1,.c (.fn 1000000006)),(9,.c (.d (.sl tPE (A.map eD)))),(10,aI A.length),(11,aI i)],zlw v p (ver+i) (R++ze4 p (A.take i))⟩) (fun i=>i≤A.length) (fun i=>A.length - i) 0 ?_ (Nat.zero_le _) ?_
 ·simp only [List.take_zero,ze4,List.map_nil,List.append_nil,Nat.add_zero]
  exact Weak.same (by simp -dsimp) (by simp -dsimp) (by first|rfl|(simp [zj,Av.ids,Ow.ids,Cl.ids,Go.Smd.keys];done))
 ·rintro i hi K hK
  by_cases hlt:i<A.length
  ·have hw:IntKind.wrap .i64 ((i:Int)+1)=((i+1:Nat):Int):=by rw[zy]<;>omega
   have hx:∀x∈p++ [A[i]],GoodE x:=fun x hx=>by
    rcases List.mem_append.1 hx with h|h
    ·exact hp x h
    ·rw[List.mem_singleton.1 h];exact hA _ (List.getElem_mem hlt)
   have hlen:(R++ze4 p (A.take i)).length=R.length+i:=by simp;omega
   have hbb:((R++ze4 p (A.take i)).length+1)*24≤140737488351232:=by omega
   have hnx:R++ze4 p (A.take (i+1))=R++ze4 p (A.take i)++ [[ZT ((p++ [A[i]]).map cE)]]:=by
    rw[List.take_succ_eq_append_getElem hlt,ze4,List.map_append,List.append_assoc];rfl
   obtain ⟨e0,e1,e2,e3,he,he'⟩:=zby (z9 A[i])
   have he:eD A[i]= [e0,e1,e2,e3]:=he
   rcases id hv with ⟨rfl,h0⟩|⟨g,cap,rfl,hcap⟩
   ·have hp0:p= []:=List.eq_nil_of_length_eq_zero h0
    subst hp0
    have hc:=zua (ver+i) (R++ze4 [] (A.take i)) A[i] hx hbb
    rw[he'] at hc
    simp only [List.nil_append] at hnx hc
    rw[←hnx] at hc
    unfold zlw
    rw[he] at hc
    (repeat' (first|(with_reducible first|refine zl (fun _=>?_) (fun _=>?_)|refine zk (fun _=>?_) (fun _=>?_))|((with_reducible apply zbZ (ρ:=[(1000000000,1000000000),(1000000001,1000000001),(1000000002,1000000002),(1000000003,1000000003),(1000000004,1000000004),(1000000005,1000000005)]) 7 (hc));(case hc=>simp -dsimp [b1,hlt,hw,he]<;>first|exact ⟨rfl,rfl,rfl⟩|exact ⟨rfl,rfl⟩|done);(case hx=>simp -dsimp [b1,hlt,hw,he]<;>with_reducible rfl);(case ho=>simp -dsimp [b1,hlt,hw,he]);(case hh=>simp -dsimp [b1,hlt,hw,he]);(case hb=>simp -dsimp [b1,hlt,hw,he]))|(with_reducible first|refine zm zd (by kernel_rfl) ?_|exact zc rfl)|(simp -dsimp [b1,hlt,hw,he])));(all_goals try with_reducible refine zc ?_)
    refine hK _ (i+1) ?_ (by omega) (by omega)
    rw[←Nat.add_assoc]
    exact Weak.same (by simp -dsimp) (by simp -dsimp) (by first|rfl|(simp [zj,Av.ids,Ow.ids,Cl.ids,Go.Smd.keys];done))
   ·have hc0:=zsx g p.length cap (ver+i) (R++ze4 p (A.take i)) p A[i] hx (by simp)
    have hc1:=zsw g p.length cap (ver+i) (R++ze4 p (A.take i)) p A[i] hx (by simp)
    rw[he',←hnx] at hc0 hc1
    by_cases hr:p.length+1≤cap
    ·have hc:=hc1 hr hm hbb
     unfold zlw
     rw[he] at hc
     (repeat' (first|(with_reducible first|refine zl (fun _=>?_) (fun _=>?_)|refine zk (fun _=>?_) (fun _=>?_))|((with_reducible apply zbZ (ρ:=[(1000000000,1000000000),(1000000001,1000000001),(1000000002,1000000002),(1000000003,1000000003),(1000000004,1000000004),(1000000005,1000000005)]) 7 (hc));(case hc=>simp -dsimp [b1,hlt,hw,he]<;>first|exact ⟨rfl,rfl,rfl⟩|exact ⟨rfl,rfl⟩|done);(case hx=>simp -dsimp [b1,hlt,hw,he]<;>with_reducible rfl);(case ho=>simp -dsimp [b1,hlt,hw,he]);(case hh=>simp -dsimp [b1,hlt,hw,he]);(case hb=>simp -dsimp [b1,hlt,hw,he]))|(with_reducible first|refine zm zd (by kernel_rfl) ?_|exact zc rfl)|(simp -dsimp [b1,hlt,hw,he])));(all_goals try with_reducible refine zc ?_)
     refine hK _ (i+1) ?_ (by omega) (by omega)
     rw[←Nat.add_assoc]
     exact Weak.same (by simp -dsimp) (by simp -dsimp) (by first|rfl|(simp [zj,Av.ids,Ow.ids,Cl.ids,Go.Smd.keys];done))
    ·have hc:=hc0 (by omega) hm hbb
     unfold zlw
     rw[he] at hc
     (repeat' (first|(with_reducible first|refine zl (fun _=>?_) (fun _=>?_)|refine zk (fun _=>?_) (fun _=>?_))|((with_reducible apply zbZ (ρ:=[(1000000000,1000000000),(1000000001,1000000001),(1000000002,1000000002),(1000000003,1000000003),(1000000004,1000000004),(1000000005,1000000005)]) 7 (hc));(case hc=>simp -dsimp [b1,hlt,hw,he]<;>first|exact ⟨rfl,rfl,rfl⟩|exact ⟨rfl,rfl⟩|done);(case hx=>simp -dsimp [b1,hlt,hw,he]<;>with_reducible rfl);(case ho=>simp -dsimp [b1,hlt,hw,he]);(case hh=>simp -dsimp [b1,hlt,hw,he]);(case hb=>simp -dsimp [b1,hlt,hw,he]))|(with_reducible first|refine zm zd (by kernel_rfl) ?_|exact zc rfl)|(simp -dsimp [b1,hlt,hw,he])));(all_goals try with_reducible refine zc ?_)
     refine hK _ (i+1) ?_ (by omega) (by omega)
     rw[←Nat.add_assoc]
     exact Weak.same (by simp -dsimp) (by simp -dsimp) (by first|rfl|(simp [zj,Av.ids,Ow.ids,Cl.ids,Go.Smd.keys];done))
  ·have hi2:i=A.length:=by omega
   subst hi2
   rw[List.take_of_length_le (Nat.le_refl _)]
   unfold zlw
   (repeat' (first|(with_reducible first|refine zl (fun _=>?_) (fun _=>?_)|refine zk (fun _=>?_) (fun _=>?_)|refine zm zd (by kernel_rfl) ?_|exact zc rfl)|(simp -dsimp [b1])));(all_goals try with_reducible refine zc ?_)
   exact ⟨rfl,rfl⟩
theorem AProc.pre1 {P:Program}{f:FuncId}{xs ys:List D}{xa:List Av}{own:List (Nat×Ow)}{R:Av→List (Nat×Ow)→Prop}(h:AProc P f (.c (.d (.pt xs))::xa) own R):AProc P f (.c (.d (.pt (xs++ys)))::xa) own R:=
 ⟨h.1,fun w E β vs s ha=>h.2 w E β vs s (by
  obtain ⟨v,vs,rfl,h1,ha⟩:=ha.inv
  exact .cons (RepD.pre (show RepD P w _ _ v from h1)) ha)⟩
mutual
def PS.list:PS→List (List EV)
 | .mk ms ks=>ms.map (fun e=>[e])++ks.list
def PK.list:PK→List (List EV)
 | .nil=>[]
 | .cons e s r=>s.list.map (fun q=>e::q)++r.list
end
mutual
def PS.depth:PS→Nat
 | .mk _ ks=>ks.depth+1
def PK.depth:PK→Nat
 | .nil=>0
 | .cons _ s r=>max s.depth r.depth
end
mutual
theorem PS.list_length:∀s:PS,s.list.length=s.size
 | .mk ms ks=>by simp only [PS.list,PS.size,List.length_append,List.length_map,PK.list_length ks]
theorem PK.list_length:∀k:PK,k.list.length=k.size
 | .nil=>by simp only [PK.list,PK.size,List.length_nil]
 | .cons e s r=>by simp only [PK.list,PK.size,List.length_append,List.length_map,PS.list_length s,PK.list_length r]
end
theorem PK.depth_le:∀{k:PK},∀s∈k.ss,s.depth≤k.depth
 | .nil,s,h=>by simp [PK.ss] at h
 | .cons e t r,s,h=>by
  have h2:=PK.depth_le (k:=r)
  simp only [PK.ss] at h
  simp only [PK.depth]
  rcases List.mem_cons.1 h with h|h
  ·rw[h];exact Nat.le_max_left ..
  ·exact Nat.le_trans (h2 s h) (Nat.le_max_right ..)
noncomputable abbrev zcL (p:List EV)(L:List (List EV)):List (List D):=L.map fun q=>[ZT ((p++q).map cE)]
theorem zp5 (p A:List EV):ze4 p A=zcL p (A.map fun e=>[e]):=by simp [ze4,zcL]
theorem zp6 (p:List EV)(e:EV)(L:List (List EV)):zcL p (L.map fun q=>e::q)=zcL (p++ [e]) L:=by simp [zcL]
def PK.take:Nat→PK→PK
 |0,_=>.nil
 |_+1,.nil=>.nil
 |i+1,.cons e s r=>.cons e s (r.take i)
theorem PK.take_zero (k:PK):k.take 0= .nil:=by cases k<;>rfl
theorem PK.take_all:∀{k:PK} {i:Nat},k.es.length≤i→k.take i=k
 | .nil,0,_=>rfl
 | .nil,i+1,_=>rfl
 | .cons e s r,0,h=>by simp [PK.es] at h
 | .cons e s r,i+1,h=>by
  simp only [PK.es,List.length_cons] at h
  simp only [PK.take];rw[PK.take_all (by omega)]
theorem PK.take_list:∀{k:PK} {i:Nat} (h:i<k.es.length) (h':i<k.ss.length),(k.take (i+1)).list=(k.take i).list++(k.ss[i]).list.map (fun q=>k.es[i]::q)
 | .nil,i,h,_=>by simp [PK.es] at h
 | .cons e s r,0,h,h'=>by
  simp only [PK.take,PK.list,PK.ss,PK.es,List.getElem_cons_zero,PK.take_zero,List.append_nil,List.nil_append]
 | .cons e s r,i+1,h,h'=>by
  have h1:i<r.es.length:=by simpa [PK.es] using h
  have h2:i<r.ss.length:=by simpa [PK.ss] using h'
  have ih:=PK.take_list h1 h2
  have e1:(PK.cons e s r).take (i+1+1)= .cons e s (r.take (i+1)):=rfl
  have e2:(PK.cons e s r).take (i+1)= .cons e s (r.take i):=rfl
  rw[e1,e2]
  simp only [PK.list,ih,PK.ss,PK.es,List.getElem_cons_succ,List.append_assoc]
theorem PK.take_size {k:PK}{i:Nat}(h:i<k.es.length)(h':i<k.ss.length):(k.take (i+1)).size=(k.take i).size+(k.ss[i]).size:=by
 have:=congrArg List.length (PK.take_list h h')
 rw[List.length_append,List.length_map,PK.list_length,PK.list_length,PS.list_length] at this
 exact this
theorem PK.take_le:∀(k:PK) (i:Nat),(k.take i).size≤k.size
 |k,0=>by rw[PK.take_zero];simp only [PK.size];omega
 | .nil,i+1=>by simp only [PK.take,PK.size];omega
 | .cons e s r,i+1=>by
  have:=PK.take_le r i
  simp only [PK.take,PK.size];omega
section
variable {P:Program} {σ:St} {d:Option Tmp} {ty:TypeId} {pos:String} {af:Array Edge} {g:Option (Nat×Bool)}
@[simp ↓] theorem zsz {T:TypeId}{n:Nat}{xs:Array (Nat×Operand)}:zhu σ ⟨d,.buildSlice T n xs,ty,pos,af,g⟩=none:=_root_.id rfl
end
@[simp] theorem zuI:prog.fulfils 104 271=true:=by kernel_rfl
theorem zsA {e:EV}(h:EVs e):EVs (Zm (z9 e)):=by
 obtain ⟨h1,h2⟩:=h
 unfold z9
 split
 ·refine ⟨?_,?_⟩<;>simp [Zm,zb0]<;>omega
 ·split
  ·exact ⟨by simp [Zm],by simp [Zm]⟩
  ·split<;>exact ⟨by simp [Zm],by simp [Zm]⟩
theorem zsB (a b:EV):zG (cE a) b=zG a b:=by
 rw[←zmM (cE a),cE,ztT,zmM]
theorem zuJ {x:GV}(h:OG x):OG (zM (zp x)):=by
 show zW (zz (zM (zp x)))=true
 rw[zb4,zcr];exact h
theorem zn0:z8 (zp zGV):=by
 have e:zp zGV= .nil:=by simp [zGV,zp]
 rw[e];constructor
theorem zhH {e:EV}(h:GoodE e):GoodE (cE e):=by
 refine ⟨zsA h.s,?_,?_⟩
 ·show FitsE (Zm (z9 e))
  unfold z9
  split
  ·refine ⟨fun x hx=>?_,zn0⟩
   simp only [Zm,zec,List.map_map,List.mem_map] at hx
   obtain ⟨p,hp,rfl⟩:=hx
   exact zfk _ (h.f.zip p hp)
  ·split
   ·exact ⟨fun x hx=>by simp [Zm] at hx,zfk _ h.f.val⟩
   ·split
    ·exact ⟨fun x hx=>by simp [Zm] at hx,zn0⟩
    ·exact ⟨fun x hx=>by simp [Zm] at hx,zn0⟩
 ·show OE (Zm (z9 e))
  unfold z9
  split
  ·next h1=>
   have hr:rkE e.k=1:=by rw[h1];rfl
   refine ⟨fun _ p hp=>?_,fun h2=>by simp [Zm,rkE] at h2⟩
   have hp2:=(List.of_mem_zip hp).2
   simp only [Zm,zec,List.map_map,List.mem_map] at hp2
   obtain ⟨q,hq,hq2⟩:=hp2
   rw[←hq2]
   exact zuJ (h.o.key hr q hq)
  ·split
   ·next h2=>
    have hr:rkE e.k=2:=by rw[h2];rfl
    exact ⟨fun h1=>by simp [Zm,rkE] at h1,fun _=>zuJ (h.o.val hr)⟩
   ·split
    ·exact ⟨fun h1=>by simp [Zm,rkE] at h1,fun h2=>by simp [Zm,rkE] at h2⟩
    ·exact ⟨fun h1=>by simp [Zm,rkE] at h1,fun h2=>by simp [Zm,rkE] at h2⟩
theorem zen:∀p q:List EV,ZL (p.map cE) q=ZL p q
 | [],[]=>rfl
 | [],_::_=>rfl
 |_::_,[]=>rfl
 |a::u,b::z=>by
  have ih:=zen u z
  simp only [List.map_cons,ZL,zsB,ih,List.isEmpty_map]
mutual
theorem PS.list_good {N:Nat}:∀{s:PS},OkS N s→∀w∈s.list,w≠ []∧∀e∈w,GoodE e
 | .mk ms ks,ok,w,hw=>by
  simp only [OkS] at ok
  simp only [PS.list] at hw
  rcases List.mem_append.1 hw with hw|hw
  ·obtain ⟨e,he,rfl⟩:=List.mem_map.1 hw
   exact ⟨by simp,fun x hx=>by rw[List.mem_singleton.1 hx];exact ok.1 e he⟩
  ·obtain ⟨e,q,rfl,he,_,hq⟩:=PK.list_good ok.2.2.2.2.2.2 ok.2.2.2.1 w hw
   exact ⟨by simp,fun x hx=>by
    rcases List.mem_cons.1 hx with rfl|hx
    ·exact ok.2.2.2.1 x he
    ·exact hq x hx⟩
theorem PK.list_good {N:Nat}:∀{k:PK},OkK N k→(∀e∈k.es,GoodE e)→∀w∈k.list,∃e q,w=e::q∧e∈k.es∧q≠ []∧∀x∈q,GoodE x
 | .nil,_,_,w,hw=>by simp [PK.list] at hw
 | .cons e s r,ok,hg,w,hw=>by
  simp only [OkK] at ok
  simp only [PK.list] at hw
  rcases List.mem_append.1 hw with hw|hw
  ·obtain ⟨q,hq,rfl⟩:=List.mem_map.1 hw
   have:=PS.list_good ok.1 q hq
   exact ⟨e,q,rfl,by simp [PK.es],this.1,this.2⟩
  ·obtain ⟨x,q,h1,h2,h3⟩:=PK.list_good ok.2 (fun x hx=>hg x (by simp [PK.es,hx])) w hw
   exact ⟨x,q,h1,by simp [PK.es,h2],h3⟩
end
theorem zp7 {e:EV}(he:OE e)(p q:List EV):ZL (e::p) (e::q)=ZL p q:=by
 rw[ZL,if_pos (zB.refl he)]
theorem zub {e f:EV}(h:zG e f<0){p q:List EV}(hp:p≠ [])(hq:q≠ []):ZL (e::p) (f::q)<0:=by
 have h1:p.isEmpty=false:=by cases p with|nil=>exact absurd rfl hp|cons _ _=>rfl
 have h2:q.isEmpty=false:=by cases q with|nil=>exact absurd rfl hq|cons _ _=>rfl
 rw[ZL,if_neg (by omega),h1,h2,if_pos rfl];exact h
theorem zmW (e f:EV){q:List EV}(hq:q≠ []):ZL [e] (f::q)<0:=by
 have h2:q.isEmpty=false:=by cases q with|nil=>exact absurd rfl hq|cons _ _=>rfl
 rw[ZL,h2]
 split
 ·cases q with
  |nil=>exact absurd rfl hq
  |cons _ _=>simp [ZL]
 ·simp
mutual
theorem PS.list_sort {N:Nat}:∀{s:PS},OkS N s→s.list.Pairwise fun x y=>ZL x y<0
 | .mk ms ks,ok=>by
  simp only [OkS] at ok
  simp only [PS.list]
  refine List.pairwise_append.2 ⟨?_,PK.list_sort ok.2.2.2.2.2.2 ok.2.2.2.1 ok.2.2.2.2.1,fun x hx y hy=>?_⟩
  ·rw[List.pairwise_map]
   refine List.Pairwise.imp ?_ ok.2.1
   intro a b h
   rw[ZL,if_neg (by omega),if_pos rfl];exact h
  ·obtain ⟨e,_,rfl⟩:=List.mem_map.1 hx
   obtain ⟨f,q,rfl,_,hq,_⟩:=PK.list_good ok.2.2.2.2.2.2 ok.2.2.2.1 y hy
   exact zmW e f hq
theorem PK.list_sort {N:Nat}:∀{k:PK},OkK N k→(∀e∈k.es,GoodE e)→zde k.es→k.list.Pairwise fun x y=>ZL x y<0
 | .nil,_,_,_=>by simp only [PK.list];exact .nil
 | .cons e s r,ok,hg,hs=>by
  simp only [OkK] at ok
  simp only [PK.es] at hs
  have hs:=List.pairwise_cons.1 hs
  have he:GoodE e:=hg e (by simp [PK.es])
  have hr:∀x∈r.es,GoodE x:=fun x hx=>hg x (by simp [PK.es,hx])
  simp only [PK.list]
  refine List.pairwise_append.2 ⟨?_,PK.list_sort ok.2 hr hs.2,fun x hx y hy=>?_⟩
  ·rw[List.pairwise_map]
   refine List.Pairwise.imp ?_ (PS.list_sort ok.1)
   intro a b h
   rw[zp7 he.o];exact h
  ·obtain ⟨q,hq,rfl⟩:=List.mem_map.1 hx
   obtain ⟨f,q',rfl,hf,hq',_⟩:=PK.list_good ok.2 hr y hy
   exact zub (hs.1 f hf) (PS.list_good ok.1 q hq).1 hq'
end
theorem PS.list_ok {N:Nat}{s:PS}(ok:OkS N s):OkW s.list:=⟨fun w hw=>(PS.list_good ok w hw).2,fun w hw=>(PS.list_good ok w hw).1,PS.list_sort ok⟩
theorem zuc {e:EV}:∀{k:PK},(∀x∈k.es,0<zG x e)→Zw e k= .empty
 | .nil,_=>rfl
 | .cons x s r,h=>by
  have:=h x (by simp [PK.es])
  simp only [Zw]
  rw[if_neg (by omega),if_neg (by omega)]
theorem PK.has_list {N:Nat}{e f:EV}{p:List EV}(he:OE e):∀{k:PK},OkK N k→(∀x∈k.es,GoodE x)→zde k.es→((∃w∈k.list,ZL w (e::f::p)=0)↔∃w∈(Zw e k).list,ZL w (f::p)=0)
 | .nil,_,_,_=>by simp [PK.list,Zw,PS.empty,PS.list]
 | .cons x s r,ok,hg,hs=>by
  simp only [OkK] at ok
  simp only [PK.es] at hs
  have hs:=List.pairwise_cons.1 hs
  have hx:GoodE x:=hg x (by simp [PK.es])
  have hr:∀y∈r.es,GoodE y:=fun y hy=>hg y (by simp [PK.es,hy])
  have ih:=PK.has_list (f:=f) (p:=p) he ok.2 hr hs.2
  have first:(∃w∈s.list.map (fun q=>x::q),ZL w (e::f::p)=0)↔zG x e=0∧∃w∈s.list,ZL w (f::p)=0:=by
   constructor
   ·rintro ⟨w,hw,h0⟩
    obtain ⟨q,hq,rfl⟩:=List.mem_map.1 hw
    have hne:=(PS.list_good ok.1 q hq).1
    obtain ⟨g,q',rfl⟩:∃g q',q=g::q':=by cases q with|nil=>exact absurd rfl hne|cons g q'=>exact ⟨g,q',rfl⟩
    rw[zi2] at h0
    exact ⟨h0.1,_,hq,h0.2⟩
   ·rintro ⟨h0,q,hq,h1⟩
    have hne:=(PS.list_good ok.1 q hq).1
    obtain ⟨g,q',rfl⟩:∃g q',q=g::q':=by cases q with|nil=>exact absurd rfl hne|cons g q'=>exact ⟨g,q',rfl⟩
    exact ⟨_,List.mem_map.2 ⟨_,hq,rfl⟩,(zi2 ..).2 ⟨h0,h1⟩⟩
  have split2:(∃w∈(PK.cons x s r).list,ZL w (e::f::p)=0)↔(∃w∈s.list.map (fun q=>x::q),ZL w (e::f::p)=0)∨∃w∈r.list,ZL w (e::f::p)=0:=by
   simp only [PK.list,List.mem_append]
   constructor
   ·rintro ⟨w,h|h,h0⟩
    ·exact .inl ⟨w,h,h0⟩
    ·exact .inr ⟨w,h,h0⟩
   ·rintro (⟨w,h,h0⟩|⟨w,h,h0⟩)
    ·exact ⟨w,.inl h,h0⟩
    ·exact ⟨w,.inr h,h0⟩
  rw[split2,first,ih]
  simp only [Zw]
  by_cases h1:zG x e<0
  ·rw[if_pos h1]
   constructor
   ·rintro (⟨h,_⟩|h)
    ·omega
    ·exact h
   ·exact .inr
  ·have hgt:Zw e r= .empty:=zuc fun y hy=>by
    have k1:=hs.1 y hy
    have k2:=zB.anti x y hx.o (hr y hy).o
    have k3:=zB.anti x e hx.o he
    have k4:=zB.anti y e (hr y hy).o he
    have:=zB.le_lt he hx.o (hr y hy).o (by omega) k1
    omega
   rw[if_neg h1,hgt]
   have hno:¬∃w∈PS.empty.list,ZL w (f::p)=0:=by simp [PS.empty,PS.list,PK.list]
   by_cases h2:zG x e=0
   ·rw[if_pos h2]
    constructor
    ·rintro (⟨_,h⟩|h)
     ·exact h
     ·exact absurd h hno
    ·exact fun h=>.inl ⟨h2,h⟩
   ·rw[if_neg h2]
    constructor
    ·rintro (⟨h,_⟩|h)
     ·exact absurd h h2
     ·exact absurd h hno
    ·exact fun h=>absurd h hno
theorem PS.has_list {N:Nat}:∀(q:List EV) {s:PS},OkS N s→q≠ []→(∀e∈q,OE e)→(s.has q=true↔∃w∈s.list,ZL w q=0)
 | [],_,_,h,_=>absurd rfl h
 | [e],.mk ms ks,ok,_,_=>by
  simp only [OkS] at ok
  simp only [PS.has,zel,PS.list,List.mem_append]
  constructor
  ·rintro ⟨x,hx,h0⟩
   exact ⟨[x],.inl (List.mem_map.2 ⟨x,hx,rfl⟩),(zgq ..).2 h0⟩
  ·rintro ⟨w,hw|hw,h0⟩
   ·obtain ⟨x,hx,rfl⟩:=List.mem_map.1 hw
    exact ⟨x,hx,(zgq ..).1 h0⟩
   ·obtain ⟨x,q,rfl,_,hq,_⟩:=PK.list_good ok.2.2.2.2.2.2 ok.2.2.2.1 w hw
    obtain ⟨g,q',rfl⟩:∃g q',q=g::q':=by cases q with|nil=>exact absurd rfl hq|cons g q'=>exact ⟨g,q',rfl⟩
    exact (zkA _ _ _ _ h0).elim
 |e::f::p,.mk ms ks,ok,_,ho=>by
  simp only [OkS] at ok
  have ih:=PS.has_list (f::p) (zdr e ok.2.2.2.2.2.2) (by simp) fun x hx=>ho x (List.mem_cons_of_mem _ hx)
  have hk:=PK.has_list (f:=f) (p:=p) (ho e (by simp)) ok.2.2.2.2.2.2 ok.2.2.2.1 ok.2.2.2.2.1
  simp only [PS.has]
  rw[ih,←hk]
  simp only [PS.list,List.mem_append]
  constructor
  ·rintro ⟨w,hw,h0⟩;exact ⟨w,.inr hw,h0⟩
  ·rintro ⟨w,hw|hw,h0⟩
   ·obtain ⟨x,_,rfl⟩:=List.mem_map.1 hw
    exact (zi1 _ _ _ _ h0).elim
   ·exact ⟨w,hw,h0⟩
theorem zkH:∀{a b:List EV},(∀x∈a,GoodE x)→(∀x∈b,GoodE x)→eqEs a b=true→All2 (fun x y=>zG x y=0) a b
 | [],[],_,_,_=>.nil
 | [],_::_,_,_,h=>by simp [eqEs] at h
 |_::_,[],_,_,h=>by simp [eqEs] at h
 |x::a,y::b,ha,hb,h=>by
  simp only [eqEs,Bool.and_eq_true] at h
  exact .cons ((ze0 (ha x (by simp)) (hb y (by simp))).1 h.1) (zkH (fun z hz=>ha z (List.mem_cons_of_mem _ hz)) (fun z hz=>hb z (List.mem_cons_of_mem _ hz)) h.2)
theorem All2.map2 {α β γ δ:Type}{R:α→β→Prop}{R':γ→δ→Prop}{f:α→γ}{g:β→δ}{xs:List α}{ys:List β}(h:All2 R xs ys)(k:∀x y,R x y→R' (f x) (g y)):All2 R' (xs.map f) (ys.map g):=by
 induction h with
 |nil=>exact .nil
 |cons h t ih=>exact .cons (k _ _ h) ih
mutual
theorem zg0 {N M:Nat}:∀{s t:PS},OkS N s→OkS M t→ze2 s t=true→All2 (fun x y=>ZL x y=0) s.list t.list
 | .mk ms ks,.mk ms' ks',ok,ok',h=>by
  simp only [OkS] at ok ok'
  simp only [ze2,Bool.and_eq_true] at h
  simp only [PS.list]
  have h1:All2 (fun x y=>ZL x y=0) (ms.map fun e=>[e]) (ms'.map fun e=>[e]):=(zkH ok.1 ok'.1 h.1).map2 fun x y k=>(zgq x y).2 k
  exact h1.append (eqPK_list ok.2.2.2.2.2.2 ok'.2.2.2.2.2.2 ok.2.2.2.1 ok'.2.2.2.1 h.2)
theorem eqPK_list {N M:Nat}:∀{k k':PK},OkK N k→OkK M k'→(∀x∈k.es,GoodE x)→(∀x∈k'.es,GoodE x)→eqPK k k'=true→All2 (fun x y=>ZL x y=0) k.list k'.list
 | .nil,.nil,_,_,_,_,_=>by simp only [PK.list];exact .nil
 | .nil,.cons _ _ _,_,_,_,_,h=>by simp [eqPK] at h
 | .cons _ _ _,.nil,_,_,_,_,h=>by simp [eqPK] at h
 | .cons e s r,.cons e' s' r',ok,ok',g,g',h=>by
  simp only [OkK] at ok ok'
  simp only [eqPK,Bool.and_eq_true] at h
  simp only [PK.list]
  have he:=(ze0 (g e (by simp [PK.es])) (g' e' (by simp [PK.es]))).1 h.1.1
  have h1:All2 (fun x y=>ZL x y=0) (s.list.map fun q=>e::q) (s'.list.map fun q=>e'::q):=(zg0 ok.1 ok'.1 h.1.2).map2 fun x y k=>by rw[ZL,if_pos he];exact k
  exact h1.append (eqPK_list ok.2 ok'.2 (fun x hx=>g x (by simp [PK.es,hx])) (fun x hx=>g' x (by simp [PK.es,hx])) h.2)
end
theorem zp8 {N M:Nat}{s t:PS}(ok:OkS N s)(hf:s.full)(ok':OkS M t)(hf':t.full)(h:All2 (fun x y=>ZL x y=0) s.list t.list):ze2 s t=true:=by
 have l1:=PS.list_ok ok
 have l2:=PS.list_ok ok'
 refine zsu s ok hf t ok' hf' fun q hq hg=>?_
 have hqo:zgY q:=fun e he=>(hg e he).o
 rw[PS.has_list q ok hq hqo,PS.has_list q ok' hq hqo]
 constructor
 ·rintro ⟨w,hw,h0⟩
  obtain ⟨i,hi,rfl⟩:=List.getElem_of_mem hw
  obtain ⟨y,hy,k⟩:=h.at (List.getElem?_eq_getElem hi)
  have hym:=List.mem_of_getElem? hy
  have a:=zbR.anti _ y (l1.oe _ hw) (l2.oe y hym)
  exact ⟨y,hym,zbR.eq_trans (l2.oe y hym) (l1.oe _ hw) hqo (by omega) h0⟩
 ·rintro ⟨w,hw,h0⟩
  obtain ⟨i,hi,rfl⟩:=List.getElem_of_mem hw
  obtain ⟨y,hy,k⟩:=h.at' (List.getElem?_eq_getElem hi)
  have hym:=List.mem_of_getElem? hy
  exact ⟨y,hym,zbR.eq_trans (l1.oe y hym) (l2.oe _ hw) hqo k h0⟩
theorem zud {l:List (List EV)}(hg:∀p∈l,∀e∈p,GoodE e){q:List EV}(hq:q≠ [])(ho:zgY q):(mkP l).has q=true↔∃p∈l,p≠ []∧ZL p q=0:=by
 obtain ⟨n,hn⟩:∃n,n=l.length:=⟨_,rfl⟩
 induction n generalizing l with
 |zero=>
  cases l with
  |cons _ _=>simp at hn
  |nil=>
   obtain ⟨_,_,h⟩:=zlu 0 [] rfl (by simp)
   rw[h q hq ho,zeZ]
   simp
 |succ n ih=>
  obtain ⟨m,p,rfl⟩:∃m p,l=m++ [p]:=⟨l.dropLast,l.getLast (by intro h0;rw[h0] at hn;simp at hn),(List.dropLast_concat_getLast _).symm⟩
  have hm:∀q∈m,∀e∈q,GoodE e:=fun q hq=>hg q (by simp [hq])
  have hp:∀e∈p,GoodE e:=hg p (by simp)
  have ih:=ih hm (by simp at hn;omega)
  rw[zdP]
  by_cases h0:p= []
  ·subst h0
   rw[zfi,ih]
   constructor
   ·rintro ⟨x,hx,k⟩;exact ⟨x,by simp [hx],k⟩
   ·rintro ⟨x,hx,k⟩
    rcases List.mem_append.1 hx with hx|hx
    ·exact ⟨x,hx,k⟩
    ·rw[List.mem_singleton.1 hx] at k;exact absurd rfl k.1
  ·rw[PS.ins_has p q (zeW _ m rfl hm) hp ho h0 hq,ih]
   constructor
   ·rintro (h|⟨x,hx,k⟩)
    ·exact ⟨p,by simp,h0,h⟩
    ·exact ⟨x,by simp [hx],k⟩
   ·rintro ⟨x,hx,k⟩
    rcases List.mem_append.1 hx with hx|hx
    ·exact .inr ⟨x,hx,k⟩
    ·rw[List.mem_singleton.1 hx] at k;exact .inl k.2
theorem zkI {N:Nat}:∀(p:List EV) (s:PS),OkS N s→(s.ins p).depth≤max s.depth p.length
 | [],s,_=>by rw[zfi];exact Nat.le_max_left ..
 | [e],.mk ms ks,_=>by simp only [PS.ins,PS.depth];omega
 |e::f::p,.mk ms ks,ok=>by
  simp only [OkS] at ok
  have ih:=zkI (f::p) (Zw e ks) (zdr e ok.2.2.2.2.2.2)
  have hg:∀k:PK,(Zw e k).depth≤max k.depth 1:=fun k=>by
   induction k using PK.rec (motive_1:=fun _=>True) with
   |mk=>trivial
   |nil=>simp only [Zw,PS.empty,PS.depth,PK.depth];omega
   |cons x s r _ ih=>
    simp only [Zw,PK.depth]
    split
    ·omega
    ·split
     ·omega
     ·simp only [PS.empty,PS.depth,PK.depth];omega
  have hp:∀(t:PS) (k:PK),(zbz e t k).depth≤max k.depth t.depth:=fun t k=>by
   induction k using PK.rec (motive_1:=fun _=>True) with
   |mk=>trivial
   |nil=>simp only [zbz,PK.depth];omega
   |cons x s r _ ih=>
    simp only [zbz,PK.depth]
    split
    ·simp only [PK.depth];omega
    ·split
     ·simp only [PK.depth];omega
     ·simp only [PK.depth];omega
  have h1:=hg ks
  have h2:=hp ((Zw e ks).ins (f::p)) ks
  simp only [PS.ins,PS.depth]
  simp only [List.length_cons] at ih ⊢
  omega
theorem zkJ:∀(n:Nat) (l:List (List EV)),l.length=n→(∀p∈l,∀e∈p,GoodE e)→∀B,1≤B→(∀p∈l,p.length≤B)→(mkP l).depth≤B
 |0,l,h,_,B,h1,_=>by
  cases l with
  |nil=>simp only [ztQ,PS.empty,PS.depth,PK.depth];omega
  |cons _ _=>simp at h
 |n+1,l,h,hg,B,h1,hB=>by
  obtain ⟨m,p,rfl⟩:∃m p,l=m++ [p]:=⟨l.dropLast,l.getLast (by intro h0;rw[h0] at h;simp at h),(List.dropLast_concat_getLast _).symm⟩
  have hm:∀q∈m,∀e∈q,GoodE e:=fun q hq=>hg q (by simp [hq])
  have ih:=zkJ n m (by simpa using h) hm B h1 fun q hq=>hB q (by simp [hq])
  have:=zkI p (mkP m) (zeW _ m rfl hm)
  have hpB:=hB p (by simp)
  rw[zdP];omega
structure SOp where
 mem:Bool→Bool
 cut:Bool
 left:Bool
theorem OkW.map_cE {W:List (List EV)}(h:OkW W):OkW (W.map fun w=>w.map cE):=by
 refine ⟨fun w hw=>?_,fun w hw=>?_,?_⟩
 ·obtain ⟨x,hx,rfl⟩:=List.mem_map.1 hw
  intro e he
  obtain ⟨y,hy,rfl⟩:=List.mem_map.1 he
  exact zhH (h.good x hx y hy)
 ·obtain ⟨x,hx,rfl⟩:=List.mem_map.1 hw
  have:=h.ne x hx
  simpa using this
 ·rw[List.pairwise_map]
  refine List.Pairwise.imp_of_mem (fun {a b} ha hb hab=>?_) h.sort
  have o2:zgY (b.map cE):=fun e he=>by obtain ⟨y,hy,rfl⟩:=List.mem_map.1 he;exact (zhH (h.good b hb y hy)).o
  have a1:=zbR.anti a (b.map cE) (h.oe a ha) o2
  have a2:=zbR.anti a b (h.oe a ha) (h.oe b hb)
  rw[zen] at a1
  rw[zen]
  omega
end Go.Smd
end
