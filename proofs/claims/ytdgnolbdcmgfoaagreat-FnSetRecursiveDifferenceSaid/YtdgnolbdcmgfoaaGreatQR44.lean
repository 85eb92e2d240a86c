/- Part 44 of the proof: Lm Ln. -/
import Derived.Test.YtdgnolbdcmgfoaaGreatQR43
import Derived.Test.YtdgnolbdcmgfoaaGreatQR42
import Derived.Test.YtdgnolbdcmgfoaaGreatQR38
set_option linter.unusedVariables false
set_option linter.unusedSimpArgs false
set_option maxRecDepth 100000
set_option maxHeartbeats 8000000
section
namespace Go.Smd
open Go.RowKit Go.Proofs Go.Proofs.Tryz
theorem zxe (N M:Nat)(hN:N≤1000000000000)(hM:M≤1000000000000)(ms ms':List EV)(ks ks':PK)(ok:OkS N (.mk ms ks))(ok':OkS M (.mk ms' ks'))(h:∀s∈ks.ss,∀t∈ks'.ss,CRd s t):CRd (.mk ms ks) (.mk ms' ks'):=by
 have ok0:=ok'
 simp only [OkS] at ok ok'
 have c1:=ACalls.pre2 (ys:=[.sl tSN (pkD ks)]) (ys':=[.sl tSN (pkD ks')]) (zvo ms ms' (by omega) ok.1 ok'.1 ok.2.1 ok'.2.1)
 have c2:=zyb ks M hM ms' ks' ok0 (by omega) ok.2.2.2.1 ok.2.2.2.2.1 h fun s hs t _=>zqN N (by omega) _ (znr oRd s (ok.2.2.2.2.2.2.all s hs) t).1
 simp only [List.cons_append,List.nil_append] at c1
 unfold CRd
 have e1:psD (opS oRd (.mk ms ks) (.mk ms' ks'))= [.sl tPE ((ms.filter fun e=> !zas e ms').map eD),.sl tSN (pkD (opK oRd ks (.mk ms' ks')))]:=by
  simp only [opS];exact zdt _ _
 rw[e1,zdt,zdt]
 rw[zdt] at c2
 generalize ms.map eD=A at c1 c2 ⊢
 generalize ms'.map eD=B at c1 c2 ⊢
 generalize (ms.filter fun e=> !zas e ms').map eD=A2 at c1 ⊢
 generalize pkD (opK oRd ks (.mk ms' ks'))=B2 at c2 ⊢
 refine ze [(1,([],[(0,[]),(1,[]),(2,[]),(3,[]),(4,[]),(5,[]),(9,[]),(10,[]),(11,[]),(12,[]),(6,[]),(7,[]),(8,[]),(13,[]),(14,[]),(15,[]),(16,[]),(17,[]),(18,[])]))] func90 (by kernel_rfl) rfl ntmps90 results90 (Nat.le_of_ble_eq_true (by kernel_rfl)) ?_;intro hok w0 S0
 clear hok
 (repeat' (first|(with_reducible first|refine zj (fun _=>?_) (fun _=>?_)|refine zi (fun _=>?_) (fun _=>?_)|refine zl (c1) (by first|rfl|(simp -dsimp;done)) ?_|(refine zA (c1) rfl ?_ ?_ ?_;iterate 2 exact by first|rfl|(simp -dsimp;done))|refine zl (c2) (by first|rfl|(simp -dsimp;done)) ?_|(refine zA (c2) rfl ?_ ?_ ?_;iterate 2 exact by first|rfl|(simp -dsimp;done))|refine zk zb (by kernel_rfl) ?_|exact za rfl)|(simp -dsimp)));(all_goals try with_reducible refine za ?_)
theorem zxf (N M:Nat)(hN:N≤1000000000000)(hM:M≤1000000000000):∀s:PS,OkS N s→∀t:PS,OkS M t→CRd s t:=
 zjf fun ms ks ih ok t ok'=>by
  obtain ⟨ms',ks'⟩:=t
  refine zxe N M hN hM ms ms' ks ks' ok ok' fun s hs t ht=>ih s hs ?_ t ?_
  ·simp only [OkS] at ok;exact ok.2.2.2.2.2.2.all s hs
  ·simp only [OkS] at ok';exact ok'.2.2.2.2.2.2.all t ht
theorem zjx {l:List (List EV)}(hp:∀p∈l,PthS p∧∀e∈p,GoodE e):∀w∈mkW l,PthS w∧∀e∈w,GoodE e:=fun w hw=>by
 have h1:=zlZ l.length l (x:=w)
 rw[List.take_of_length_le (Nat.le_refl _)] at h1
 exact hp w (h1 hw)
theorem znA (X Y:List (List EV))(lX:X.length≤3000000000000)(lY:Y.length≤3000000000000)(hX:∀p∈X,PthS p∧∀e∈p,GoodE e)(hY:∀p∈Y,PthS p∧∀e∈p,GoodE e):
  ACalls prog 61 [.c (.d (zM X)),.c (.d (zM Y))] (fun r=>r=aV (.bool (zhi ((mkW X).map cP) ((mkW Y).map cP)))):=by
 have c1:=zhY X lX hX
 have c2:=zhY Y lY hY
 have k1:=zjq X
 have k2:=zjq Y
 have pth:∀{L:List (List EV)},(∀p∈L,PthS p∧∀e∈p,GoodE e)→∀p∈(mkW L).map cP,PthS p:=fun {L} h p hp=>by
  obtain ⟨w,hw,rfl⟩:=List.mem_map.1 hp
  have:=zjx h w hw
  exact (zty this.1 this.2).1
 have c3:=ztA ((mkW X).map cP) ((mkW Y).map cP) (by rw[List.length_map];omega) (by rw[List.length_map];omega) (pth hX) (pth hY)
 generalize (mkW X).map cP=A at c1 c3 ⊢
 generalize (mkW Y).map cP=B at c2 c3 ⊢
 refine ze [] func61 (by kernel_rfl) rfl ntmps61 results61 (Nat.le_of_ble_eq_true (by kernel_rfl)) ?_;intro hok w0 S0
 clear hok
 (repeat' (first|(with_reducible first|refine zj (fun _=>?_) (fun _=>?_)|refine zi (fun _=>?_) (fun _=>?_)|refine zl (c1) (by first|rfl|(simp -dsimp;done)) ?_|refine zl (c2) (by first|rfl|(simp -dsimp;done)) ?_|refine zl (c3) (by first|rfl|(simp -dsimp;done)) ?_|refine zk zb (by kernel_rfl) ?_|exact za rfl)|(simp -dsimp)));(all_goals try with_reducible refine za ?_)
theorem zvq (X Y:List (List EV))(lX:X.length≤3000000000000)(lY:Y.length≤3000000000000)(hX:OkW X)(hY:OkW Y)(pX:∀p∈X,PthS p)(pY:∀p∈Y,PthS p)(h:znv X Y):
  ACalls prog 32 [.c (.d (zM X)),.c (.d (zM Y))] (fun r=>r=aV (.bool true)):=by
 have hl:=(zjw hX hY h).length
 have c1:=znA X Y lX lY (fun p hp=>⟨pX p hp,hX.good p hp⟩) fun p hp=>⟨pY p hp,hY.good p hp⟩
 have e:zhi ((mkW X).map cP) ((mkW Y).map cP)=true:=by
  rw[zf8 _ X rfl hX,zf8 _ Y rfl hY,zqV hX.map_cP.good hY.map_cP.good]
  exact zjw hX.map_cP hY.map_cP (ztz h)
 rw[e] at c1
 have b1:X.length≤9223372036854775807:=by omega
 have b2:Y.length≤9223372036854775807:=by omega
 have hli:(X.length:Int)=Y.length:=by omega
 refine ze [] func32 (by kernel_rfl) rfl ntmps32 results32 (Nat.le_of_ble_eq_true (by kernel_rfl)) ?_;intro hok w0 S0
 clear hok
 (repeat' (first|(with_reducible first|refine zj (fun _=>?_) (fun _=>?_)|refine zi (fun _=>?_) (fun _=>?_)|refine zl (c1) (by first|rfl|(simp -dsimp [b1,b2,hl,hli];done)) ?_|refine zk zb (by kernel_rfl) ?_|exact za rfl)|(simp -dsimp [b1,b2,hl,hli])));(all_goals try with_reducible refine za ?_)
theorem zxg {W:List (List EV)}(hW:OkW W)(hl:W.length≤3000000000000)(hs:∀w∈W,PthS w){p:List EV}(hp:∀e∈p,GoodE e)(hps:PthS p)(hne:0<p.length):
  ACalls prog 152 [.c (.d (zM (W.map cP))),.c (.d (zG p))] (fun r=>r=aV (.bool (zey W p))):=by
 have c1:=zpu hW (by omega) hs hp hps
 have b1:p.length≤9223372036854775807:=by have:=hps.1;omega
 generalize W.map cP=X at c1 ⊢
 generalize lbG Zf p W=z at c1
 cases hh:zey W p with
 |true=>
  rw[hh] at c1
  refine ze [] func152 (by kernel_rfl) rfl ntmps152 results152 (Nat.le_of_ble_eq_true (by kernel_rfl)) ?_;intro hok w0 S0
  clear hok
  (repeat' (first|(with_reducible first|refine zj (fun _=>?_) (fun _=>?_)|refine zi (fun _=>?_) (fun _=>?_)|refine zl (c1) (by first|rfl|(simp -dsimp [b1,hne];done)) ?_|refine zk zb (by kernel_rfl) ?_|exact za rfl)|(simp -dsimp [b1,hne])));(all_goals try with_reducible refine za ?_)
 |false=>
  rw[hh] at c1
  refine ze [] func152 (by kernel_rfl) rfl ntmps152 results152 (Nat.le_of_ble_eq_true (by kernel_rfl)) ?_;intro hok w0 S0
  clear hok
  (repeat' (first|(with_reducible first|refine zj (fun _=>?_) (fun _=>?_)|refine zi (fun _=>?_) (fun _=>?_)|refine zl (c1) (by first|rfl|(simp -dsimp [b1,hne];done)) ?_|refine zk zb (by kernel_rfl) ?_|exact za rfl)|(simp -dsimp [b1,hne])));(all_goals try with_reducible refine za ?_)
def zf9 (W:List (List EV))(p:List EV):Bool:=(List.range p.length).any fun n=>zey W (p.take (n+1))
theorem zjy {W:List (List EV)}{p:List EV}:zf9 W p=true↔∃n,1≤n∧n≤p.length∧zey W (p.take n)=true:=by
 simp only [zf9,List.any_eq_true,List.mem_range]
 constructor
 ·rintro ⟨n,h1,h2⟩;exact ⟨n+1,by omega,by omega,h2⟩
 ·rintro ⟨n,h1,h2,h3⟩
  refine ⟨n - 1,by omega,?_⟩
  have:n - 1+1=n:=by omega
  rw[this];exact h3
theorem zqW {W:List (List EV)}(hW:OkW W)(hl:W.length≤3000000000000)(hs:∀w∈W,PthS w){p:List EV}(hp:∀e∈p,GoodE e)(hps:PthS p):
  ACalls prog 93 [.c (.d (zM (W.map cP))),.c (.d (zG p))] (fun r=>r=aV (.bool (zf9 W p))):=by
 have b0:=hps.1
 have b1:p.length≤9223372036854775807:=by omega
 have c0:=fun (n:Nat) (h1:1≤n) (h2:n≤p.length)=>zxg hW hl hs (p:=p.take n) (fun e he=>hp e (List.mem_of_mem_take he)) ⟨by rw[List.length_take];omega,fun e he=>hps.2 e (List.mem_of_mem_take he)⟩ (by rw[List.length_take];omega)
 have eP:∀n,zG (p.take n)= .sl 29 (List.take n (p.map fun e=>evD e)):=fun n=>by simp only [zG,List.map_take]
 generalize W.map cP=X at c0 ⊢
 refine ze [] func93 (by kernel_rfl) rfl ntmps93 results93 (Nat.le_of_ble_eq_true (by kernel_rfl)) ?_;intro hok w0 S0
 clear hok
 (repeat' (first|(with_reducible first|refine zj (fun _=>?_) (fun _=>?_)|refine zi (fun _=>?_) (fun _=>?_)|refine zk zb (by kernel_rfl) ?_|exact za rfl)|(simp -dsimp)));(all_goals try with_reducible refine za ?_)
 refine zC (fun i:Nat=>⟨[(0,.c (.d (zM X))),(1,.c (.d (zG p))),(5,aI ((i+1:Nat):Int))],[]⟩) (fun i=>i≤p.length∧∀j,1≤j→j≤i→zey W (p.take j)=false) (fun i=>p.length - i) 0 ?_ ⟨Nat.zero_le _,fun j h1 h2=>by omega⟩ ?_
 ·exact Weak.same (by simp -dsimp) (by simp -dsimp) (by first|rfl|(simp [zf,Av.ids,Ow.ids,Cl.ids,Go.Smd.keys];done))
 ·rintro i ⟨hi,hall⟩ K hK
  by_cases hlt:i<p.length
  ·have hw:IntKind.wrap .i64 (((i+1:Nat):Int)+1)=((i+1+1:Nat):Int):=by rw[zn]<;>omega
   have hle:(((i+1:Nat):Int)≤(p.length:Int)):=by omega
   have hle2:i+1≤p.length:=by omega
   have c1:=c0 (i+1) (by omega) hle2
   rw[eP] at c1
   obtain ⟨m,hm⟩:∃m,m=i+1:=⟨_,rfl⟩
   rw[←hm] at hw hle hle2 c1 ⊢
   cases hh:zey W (p.take m) with
   |true=>
    rw[hh] at c1
    have ht:zf9 W p=true:=zjy.2 ⟨m,by omega,hle2,hh⟩
    rw[ht]
    (repeat' (first|(with_reducible first|refine zj (fun _=>?_) (fun _=>?_)|refine zi (fun _=>?_) (fun _=>?_)|refine zl (c1) (by first|rfl|(simp -dsimp [b1,hle,hle2,hw];done)) ?_|refine zk zb (by kernel_rfl) ?_|exact za rfl)|(simp -dsimp [b1,hle,hle2,hw])));(all_goals try with_reducible refine za ?_)
   |false=>
    rw[hh] at c1
    (repeat' (first|(with_reducible first|refine zj (fun _=>?_) (fun _=>?_)|refine zi (fun _=>?_) (fun _=>?_)|refine zl (c1) (by first|rfl|(simp -dsimp [b1,hle,hle2,hw];done)) ?_|refine zk zb (by kernel_rfl) ?_|exact za rfl)|(simp -dsimp [b1,hle,hle2,hw])));(all_goals try with_reducible refine za ?_)
    refine hK _ (i+1) ?_ ⟨by omega,fun j h1 h2=>?_⟩ (by omega)
    ·rw[←hm]
     exact Weak.same (by simp -dsimp) (by simp -dsimp) (by first|rfl|(simp [zf,Av.ids,Ow.ids,Cl.ids,Go.Smd.keys];done))
    ·by_cases e:j≤i
     ·exact hall j h1 e
     ·have:j=m:=by omega
      rw[this];exact hh
  ·have hf:zf9 W p=false:=by
    rw[←Bool.not_eq_true,zjy]
    rintro ⟨n,h1,h2,h3⟩
    rw[hall n h1 (by omega)] at h3;cases h3
   have hle:¬(((i+1:Nat):Int)≤(p.length:Int)):=by omega
   have hle2:¬i+1≤p.length:=by omega
   obtain ⟨m,hm⟩:∃m,m=i+1:=⟨_,rfl⟩
   rw[←hm] at hle hle2 ⊢
   rw[hf]
   (repeat' (first|(with_reducible first|refine zj (fun _=>?_) (fun _=>?_)|refine zi (fun _=>?_) (fun _=>?_)|refine zk zb (by kernel_rfl) ?_|exact za rfl)|(simp -dsimp [b1,hle,hle2])));(all_goals try with_reducible refine za ?_)
theorem zxh (g:FuncId)(T:TypeId)(D0:D)(pr:List EV→Bool)(L:List (List EV))(hl:L.length*24≤140737488351232)
  (hg:∀p∈L,AProc prog g [.c (.d (zG p)),.c (.own 1000000000 0)] [(1000000000,.cells [.d D0] T)] (fun r own'=>r=aV (.bool (pr p))∧own'= [(1000000000,.cells [.d D0] T)])):
  AProc prog 91 [.c (.d (zM L)),.c (.fn 1000000000)] [(1000000000,.clo (.fn g) [.own 1000000001 0]),(1000000001,.cells [.d D0] T)]
   (fun r own'=>∃ver,True∧r= .c (.gs 77 ver)∧own'= [(77,.arr ver zdO ((L.filter pr).map fun w=>[zG w])),(1000000000,.clo (.fn g) [.own 1000000001 0]),(1000000001,.cells [.d D0] T)]):=by
 have b1:L.length≤9223372036854775807:=by omega
 refine zaI [] func91 (by kernel_rfl) rfl ntmps91 results91 (Nat.le_of_ble_eq_true (by kernel_rfl)) ?_;intro hok w0 S0
 (repeat' (first|(with_reducible first|refine zj (fun _=>?_) (fun _=>?_)|refine zi (fun _=>?_) (fun _=>?_)|refine zk zb (by kernel_rfl) ?_|exact za rfl)|(simp -dsimp [b1])));(all_goals try with_reducible refine za ?_)
 refine zC (fun x:Nat×Nat=>⟨[(1,.c (.fn 1000000000)),(5,.c (.gs 77 x.2)),(8,.c (.d (zM L))),(9,aI L.length),(10,aI x.1)],[(77,.arr x.2 zdO (((L.take x.1).filter pr).map fun w=>[zG w])),(1000000000,.clo (.fn g) [.own 1000000001 0]),(1000000001,.cells [.d D0] T)]⟩) (fun x=>x.1≤L.length) (fun x=>L.length - x.1) (0,0) ?_ (Nat.zero_le _) ?_
 ·refine Weak.trans (Weak.adoptT (t:=5) (id:=77) (E:=zdO) rfl rfl (by decide)) ?_
  exact Weak.same (by simp -dsimp) (by simp -dsimp) (by first|rfl|(simp [zf,Av.ids,Ow.ids,Cl.ids,Go.Smd.keys];done))
 ·rintro ⟨i,ver⟩ hi K hK
  dsimp only at hi ⊢
  by_cases hlt:i<L.length
  ·have hw:IntKind.wrap .i64 ((i:Int)+1)=((i+1:Nat):Int):=by rw[zn]<;>omega
   have hc:=hg _ (List.getElem_mem hlt)
   have hln:(((L.take i).filter pr).map fun w=>[zG w]).length≤i:=by
    rw[List.length_map]
    exact Nat.le_trans (List.length_filter_le _ _) (by rw[List.length_take];omega)
   cases hp:pr L[i] with
   |true=>
    rw[hp] at hc
    have hnx:((L.take (i+1)).filter pr).map (fun w=>[zG w])=((L.take i).filter pr).map (fun w=>[zG w])++ [[zG L[i]]]:=by
     rw[List.take_succ_eq_append_getElem hlt,List.filter_append,List.map_append]
     simp [hp]
    obtain ⟨R,hR⟩:∃R,R=((L.take i).filter pr).map fun w=>[zG w]:=⟨_,rfl⟩
    rw[←hR] at hln hnx ⊢
    have hb:(R.length+1)*24≤140737488351232:=by omega
    (repeat' (first|(with_reducible first|refine zj (fun _=>?_) (fun _=>?_)|refine zi (fun _=>?_) (fun _=>?_))|((with_reducible apply zc0 (ρ:=[(1000000000,1000000001)]) 7 (hc));(case hc=>simp -dsimp [b1,hlt,hw,hb,zc]<;>first|exact ⟨rfl,rfl,rfl⟩|exact ⟨rfl,rfl⟩|done);(case hx=>simp -dsimp [b1,hlt,hw,hb,zc]<;>with_reducible rfl);(case ho=>simp -dsimp [b1,hlt,hw,hb,zc]);(case hh=>simp -dsimp [b1,hlt,hw,hb,zc]);(case hb=>simp -dsimp [b1,hlt,hw,hb,zc]))|(with_reducible first|refine zk zb (by kernel_rfl) ?_|exact za rfl)|(simp -dsimp [b1,hlt,hw,hb,zc])));(all_goals try with_reducible refine za ?_)
    refine hK _ (i+1,ver+1) ?_ (by show i+1≤_;omega) (by show L.length - (i+1)<_;omega)
    dsimp only
    rw[hnx]
    exact Weak.same (by simp -dsimp) (by simp -dsimp) (by first|rfl|(simp [zf,Av.ids,Ow.ids,Cl.ids,Go.Smd.keys];done))
   |false=>
    rw[hp] at hc
    have hnx:((L.take (i+1)).filter pr).map (fun w=>[zG w])=((L.take i).filter pr).map (fun w=>[zG w]):=by
     rw[List.take_succ_eq_append_getElem hlt,List.filter_append,List.map_append]
     simp [hp]
    obtain ⟨R,hR⟩:∃R,R=((L.take i).filter pr).map fun w=>[zG w]:=⟨_,rfl⟩
    rw[←hR] at hnx ⊢
    (repeat' (first|(with_reducible first|refine zj (fun _=>?_) (fun _=>?_)|refine zi (fun _=>?_) (fun _=>?_))|((with_reducible apply zc0 (ρ:=[(1000000000,1000000001)]) 7 (hc));(case hc=>simp -dsimp [b1,hlt,hw]<;>first|exact ⟨rfl,rfl,rfl⟩|exact ⟨rfl,rfl⟩|done);(case hx=>simp -dsimp [b1,hlt,hw]<;>with_reducible rfl);(case ho=>simp -dsimp [b1,hlt,hw]);(case hh=>simp -dsimp [b1,hlt,hw]);(case hb=>simp -dsimp [b1,hlt,hw]))|(with_reducible first|refine zk zb (by kernel_rfl) ?_|exact za rfl)|(simp -dsimp [b1,hlt,hw])));(all_goals try with_reducible refine za ?_)
    refine hK _ (i+1,ver) ?_ (by show i+1≤_;omega) (by show L.length - (i+1)<_;omega)
    dsimp only
    rw[hnx]
    exact Weak.same (by simp -dsimp) (by simp -dsimp) (by first|rfl|(simp [zf,Av.ids,Ow.ids,Cl.ids,Go.Smd.keys];done))
  ·rw[List.take_of_length_le (by omega)]
   (repeat' (first|(with_reducible first|refine zj (fun _=>?_) (fun _=>?_)|refine zi (fun _=>?_) (fun _=>?_)|refine zk zb (by kernel_rfl) ?_|exact za rfl)|(simp -dsimp [hlt])));(all_goals try with_reducible refine za ?_)
   exact ⟨ver,trivial,rfl,rfl⟩
theorem zxi {W:List (List EV)}(hW:OkW W)(hl:W.length≤3000000000000)(hs:∀w∈W,PthS w){p:List EV}(hp:∀e∈p,GoodE e)(hps:PthS p):
  AProc prog 92 [.c (.d (zG p)),.c (.own 1000000000 0)] [(1000000000,.cells [.d (zM (W.map cP))] zda)] (fun r own'=>r=aV (.bool (!zf9 W p))∧own'= [(1000000000,.cells [.d (zM (W.map cP))] zda)]):=by
 have c1:=zqW hW hl hs hp hps
 generalize zf9 W p=b at c1 ⊢
 generalize W.map cP=X at c1 ⊢
 refine zaI [] func92 (by kernel_rfl) rfl ntmps92 results92 (Nat.le_of_ble_eq_true (by kernel_rfl)) ?_;intro hok w0 S0
 (repeat' (first|(with_reducible first|refine zj (fun _=>?_) (fun _=>?_)|refine zi (fun _=>?_) (fun _=>?_)|refine zl (c1) (by first|rfl|(simp -dsimp;done)) ?_|refine zk zb (by kernel_rfl) ?_|exact za rfl)|(simp -dsimp)));(all_goals try with_reducible refine za ?_)
 exact ⟨rfl,rfl⟩
theorem zl6 {W:List (List EV)}(hW:OkW W)(hl:W.length≤3000000000000)(hs:∀w∈W,PthS w)(L:List (List EV))(lL:L.length≤3000000000000)(hL:∀p∈L,PthS p∧∀e∈p,GoodE e):
  ACalls prog 34 [.c (.d (zM L)),.c (.d (zM (W.map cP)))] (fun r=>r= .c (.d (zM (L.filter fun p=> !zf9 W p)))):=by
 have hk:=zxh 92 zda (zM (W.map cP)) (fun p=> !zf9 W p) L (by omega) fun p hp=>zxi hW hl hs (hL p hp).2 (hL p hp).1
 generalize W.map cP=X at hk ⊢
 generalize (L.filter fun p=> !zf9 W p)=Q at hk ⊢
 have ct:zaa prog 75= [none]:=by kernel_rfl
 refine ze [] func34 (by kernel_rfl) rfl ntmps34 results34 (Nat.le_of_ble_eq_true (by kernel_rfl)) ?_;intro hok w0 S0
 clear hok
 (repeat' (first|(with_reducible first|refine zj (fun _=>?_) (fun _=>?_)|refine zi (fun _=>?_) (fun _=>?_))|((with_reducible apply zkm (ρ:=[(1000000000,6),(1000000001,3)]) 7 (hk));(case hc=>simp -dsimp [ct]<;>first|exact ⟨rfl,rfl,rfl⟩|exact ⟨rfl,rfl⟩|done);(case hx=>simp -dsimp [ct]<;>with_reducible rfl);(case ho=>simp -dsimp [ct]);(case hh=>simp -dsimp [ct]);(case hb=>intro x hx;simp -dsimp [ct]);intro _ _)|(with_reducible first|refine zk zb (by kernel_rfl) ?_|exact za rfl)|(simp -dsimp [ct])));(all_goals try with_reducible refine za ?_)
end Go.Smd
end
