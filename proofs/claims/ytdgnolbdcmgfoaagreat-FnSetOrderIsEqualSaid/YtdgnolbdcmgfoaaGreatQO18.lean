/- Part 18 of the proof: Vg Vh Vi Sort. -/
import Derived.Test.YtdgnolbdcmgfoaaGreatQO14
import Derived.Test.YtdgnolbdcmgfoaaGreatQO17
import Derived.Test.YtdgnolbdcmgfoaaGreatQO01
import Derived.Lib.Bytealg
import Derived.Laws.FloatBits
import Derived.Test.YtdgnolbdcmgfoaaGreatQO15
import Derived.Test.YtdgnolbdcmgfoaaGreatQO02
import Derived.Test.YtdgnolbdcmgfoaaGreatQO11
import Derived.Test.YtdgnolbdcmgfoaaGreatQO09
set_option linter.unusedVariables false
set_option linter.unusedSimpArgs false
set_option maxRecDepth 100000
set_option maxHeartbeats 8000000
section
namespace Go.Smd
open Go.RowKit Go.Proofs Go.Proofs.Tryz
def zT (a b:Int):Int:=if b<a then 1 else if a<b then -1 else 0
theorem zlj (a b:Int):ACalls prog 248 [aV (.int .i64 a),aV (.int .i64 b)] (fun r=>r=aV (.int .i64 (zT a b))):=by
 refine zg [] func248 (by kernel_rfl) rfl ntmps248 results248 (Nat.le_of_ble_eq_true (by kernel_rfl)) ?_;intro hok w0 S0
 (repeat' (first|(with_reducible first|refine zl (fun _=>?_) (fun _=>?_)|refine zk (fun _=>?_) (fun _=>?_)|refine zm zd (by kernel_rfl) ?_|exact zc rfl)|(simp -dsimp)));(all_goals try with_reducible refine zc ?_)
 ·have h:b<a:=by assumption
  unfold zT;rw[if_pos h]
 ·have h:¬b<a:=by assumption
  have h':a<b:=by assumption
  unfold zT;rw[if_neg h,if_pos h']
 ·have h:¬b<a:=by assumption
  have h':¬a<b:=by assumption
  unfold zT;rw[if_neg h,if_neg h']
def ztD:Bool→Bool→Int
 |false,true=> -1
 |true,false=>1
 |_,_=>0
theorem zjn (a b:Bool):ACalls prog 249 [aV (.bool a),aV (.bool b)] (fun r=>r=aV (.int .i64 (ztD a b))):=by
 cases a<;>cases b
 all_goals
  refine zg [] func249 (by kernel_rfl) rfl ntmps249 results249 (Nat.le_of_ble_eq_true (by kernel_rfl)) ?_;intro hok w0 S0
  (repeat' (first|(with_reducible first|refine zl (fun _=>?_) (fun _=>?_)|refine zk (fun _=>?_) (fun _=>?_)|refine zm zd (by kernel_rfl) ?_|exact zc rfl)|(simp -dsimp)));(all_goals try with_reducible refine zc ?_)
  all_goals rfl
def zbv (a b:Nat):Int:=if (FloatKind.f64.format.order a b==some .gt)=true then 1 else if (FloatKind.f64.format.order a b==some .lt)=true then -1 else 0
theorem ziv (a b:Nat):ACalls prog 247 [aV (.float .f64 a),aV (.float .f64 b)] (fun r=>r=aV (.int .i64 (zbv a b))):=by
 refine zg [] func247 (by kernel_rfl) rfl ntmps247 results247 (Nat.le_of_ble_eq_true (by kernel_rfl)) ?_;intro hok w0 S0
 (repeat' (first|(with_reducible first|refine zl (fun _=>?_) (fun _=>?_)|refine zk (fun _=>?_) (fun _=>?_)|refine zm zd (by kernel_rfl) ?_|exact zc rfl)|(simp -dsimp)));(all_goals try with_reducible refine zc ?_)
 ·rename_i h
  unfold zbv;rw[if_pos h]
 ·rename_i h h'
  unfold zbv;rw[if_neg (by rw[h];simp),if_pos h']
 ·rename_i h h'
  unfold zbv;rw[if_neg (by rw[h];simp),if_neg (by rw[h'];simp)]
theorem zml (a b:ByteArray)(w:World):Calls prog 230 #[.string a,.string b] w fun e w'=>e= .returned (.int .i64 (Lib.compareBytes a.data.toList b.data.toList))∧w'=w:=by
 go_enter func230,ntmps230
 go_wp2
 rw[run_callFunc_extern func246 (by kernel_rfl) (by kernel_rfl) (by kernel_rfl) (e:=Extern.BytealgCompare.compare) (by kernel_rfl),Lib.run_compareString]
 simp only [Result.andThen]
 rw[Oper.upon_value]
 go_wp2
 go_ret
 exact ⟨rfl,rfl⟩
theorem zhe:∀l m:List UInt8,Lib.compareBytes l m= -1∨Lib.compareBytes l m=0∨Lib.compareBytes l m=1
 | [],[]=>by simp [Lib.compareBytes]
 | [],_::_=>by simp [Lib.compareBytes]
 |_::_,[]=>by simp [Lib.compareBytes]
 |x::l,y::m=>by
  have:=zhe l m
  simp only [Lib.compareBytes]
  repeat' split
  all_goals first|exact this|simp
theorem zmm (a b:ByteArray):ACalls prog 230 [aV (.string a),aV (.string b)] (fun r=>r=aV (.int .i64 (Lib.compareBytes a.data.toList b.data.toList))):=by
 refine ⟨⟨_,func230,by kernel_rfl,by kernel_rfl⟩,fun w S vs hS ha=>?_⟩
 cases ha with
 |cons h1 t=>cases t with
  |cons h2 t=>cases t with
   |nil=>
    obtain ⟨rfl,_⟩:=ZR h1
    obtain ⟨rfl,_⟩:=ZR h2
    refine (zml a b w).mono ?_
    rintro e w' ⟨rfl,rfl⟩
    exact ⟨_,_,rfl,rfl,Z1 (by rcases zhe a.data.toList b.data.toList with h|h|h<;>rw[h]<;>rfl),Ext.refl _⟩
theorem zgc (a b:ByteArray):ACalls prog 198 [aV (.string a),aV (.string b)] (fun r=>r=aV (.int .i64 (Lib.compareBytes a.data.toList b.data.toList))):=by
 refine zg [] func198 (by kernel_rfl) rfl ntmps198 results198 (Nat.le_of_ble_eq_true (by kernel_rfl)) ?_;intro hok w0 S0
 (repeat' (first|(with_reducible first|refine zl (fun _=>?_) (fun _=>?_)|refine zk (fun _=>?_) (fun _=>?_)|refine zt (zmm a b) (by first|rfl|(simp -dsimp;done)) ?_|refine zm zd (by kernel_rfl) ?_|exact zc rfl)|(simp -dsimp)));(all_goals try with_reducible refine zc ?_)
 all_goals rfl
def zgd (n:Int):Nat:=FloatKind.f64.nearest n
theorem ztE (n:Int):zgd n<18446744073709551616:=Nat.lt_of_lt_of_eq (Ieee.Format.write_lt Ieee.double (.number (decide (n<0)) n.natAbs 0)) (by kernel_rfl)
theorem zvo (n:Int):zn prog (convert 2 25 (.int .i64 n))=some (.float .f64 (zgd n)):=by kernel_rfl
theorem Zf (n:Int):zO prog (convert 2 25 (.int .i64 n))=some (.c (.d (.v (.float .f64 (zgd n))))):=by
 unfold zO;rw[zvo];simp [Zj,ztE]
def ztF (cl:List Tree→List Tree→Int)(cm:List (ByteArray×Tree)→List (ByteArray×Tree)→Int):Tree→Tree→Int
 | .float a,.float b=>zbv a b
 | .float a,.int b=>zbv a (zgd b)
 | .float _,_=> -1
 | .int a,.float b=>zbv (zgd a) b
 |_,.float _=>1
 | .int a,.int b=>zT a b
 | .int _,_=> -1
 |_,.int _=>1
 | .str a,.str b=>Lib.compareBytes a.data.toList b.data.toList
 | .str _,_=> -1
 |_,.str _=>1
 | .bool a,.bool b=>ztD a b
 | .bool _,_=> -1
 |_,.bool _=>1
 | .list a,.list b=>cl a b
 | .list _,_=> -1
 |_,.list _=>1
 | .map a,.map b=>cm a b
 | .map _,_=> -1
 |_,.map _=>1
 | .nil,.nil=>0
theorem ziw (cl:List Tree→List Tree→Int)(cm:List (ByteArray×Tree)→List (ByteArray×Tree)→Int)(x y:Tree)
  (hL:∀l m,x= .list l→y= .list m→ACalls prog 250 [zY,.c (.d (dL l)),.c (.d (dL m))] (fun r=>r=aV (.int .i64 (cl l m))))
  (hM:∀l m,x= .map l→y= .map m→ACalls prog 251 [zY,.c (.d (dM l)),.c (.d (dM m))] (fun r=>r=aV (.int .i64 (cm l m)))):
  ACalls prog zbn [zY,.c (.d (dV x)),.c (.d (dV y))] (fun r=>r=aV (.int .i64 (ztF cl cm x y))):=by
 cases x<;>cases y
 all_goals
  refine zg [] func231 (by kernel_rfl) rfl ntmps231 results231 (Nat.le_of_ble_eq_true (by kernel_rfl)) ?_;intro hok w0 S0
  (repeat' (first|(with_reducible first|refine zl (fun _=>?_) (fun _=>?_)|refine zk (fun _=>?_) (fun _=>?_)|refine zt (zj3 _) (by first|rfl|(simp -dsimp [Zf,zD,Zd,zx,zR,zS,Ze,zK];done)) ?_|refine zt (zom _) (by first|rfl|(simp -dsimp [Zf,zD,Zd,zx,zR,zS,Ze,zK];done)) ?_|refine zt (zir _) (by first|rfl|(simp -dsimp [Zf,zD,Zd,zx,zR,zS,Ze,zK];done)) ?_|refine zt (zmh _) (by first|rfl|(simp -dsimp [Zf,zD,Zd,zx,zR,zS,Ze,zK];done)) ?_|refine zt (zmi _) (by first|rfl|(simp -dsimp [Zf,zD,Zd,zx,zR,zS,Ze,zK];done)) ?_|refine zt (zon _) (by first|rfl|(simp -dsimp [Zf,zD,Zd,zx,zR,zS,Ze,zK];done)) ?_|refine zt (zmj _) (by first|rfl|(simp -dsimp [Zf,zD,Zd,zx,zR,zS,Ze,zK];done)) ?_|refine zt (zj4 _) (by first|rfl|(simp -dsimp [Zf,zD,Zd,zx,zR,zS,Ze,zK];done)) ?_|refine zt (zoo _) (by first|rfl|(simp -dsimp [Zf,zD,Zd,zx,zR,zS,Ze,zK];done)) ?_|refine zt (zit _) (by first|rfl|(simp -dsimp [Zf,zD,Zd,zx,zR,zS,Ze,zK];done)) ?_|refine zt (zmk _) (by first|rfl|(simp -dsimp [Zf,zD,Zd,zx,zR,zS,Ze,zK];done)) ?_|refine zt (zfp _ zdc) (by first|rfl|(simp -dsimp [Zf,zD,Zd,zx,zR,zS,Ze,zK];done)) ?_|refine zt (zgb _ zdc) (by first|rfl|(simp -dsimp [Zf,zD,Zd,zx,zR,zS,Ze,zK];done)) ?_|refine zt (ziv _ _) (by first|rfl|(simp -dsimp [Zf,zD,Zd,zx,zR,zS,Ze,zK];done)) ?_|refine zt (zlj _ _) (by first|rfl|(simp -dsimp [Zf,zD,Zd,zx,zR,zS,Ze,zK];done)) ?_|refine zt (zgc _ _) (by first|rfl|(simp -dsimp [Zf,zD,Zd,zx,zR,zS,Ze,zK];done)) ?_|refine zt (zjn _ _) (by first|rfl|(simp -dsimp [Zf,zD,Zd,zx,zR,zS,Ze,zK];done)) ?_|refine zt (hL _ _ rfl rfl) (by first|rfl|(simp -dsimp [Zf,zD,Zd,zx,zR,zS,Ze,zK];done)) ?_|refine zt (hM _ _ rfl rfl) (by first|rfl|(simp -dsimp [Zf,zD,Zd,zx,zR,zS,Ze,zK];done)) ?_)|((with_reducible apply zce);(case hx=>simp -dsimp [Zf,zD,Zd,zx,zR,zS,Ze,zK];with_reducible rfl);(case hd=>exact zbM))|(with_reducible first|refine zm zd (by kernel_rfl) ?_|exact zc rfl)|(simp -dsimp [Zf,zD,Zd,zx,zR,zS,Ze,zK])));(all_goals try with_reducible refine zc ?_)
 all_goals rfl
abbrev zal:FuncId:=232
abbrev dLp (l:List Tree):D:=.ifc 469 (.pt [zpB l])
def eqL (e:Tree→Tree→Bool):List Tree→List Tree→Bool
 | [],[]=>true
 |x::xs,y::ys=>e x y && eqL e xs ys
 |_,_=>false
theorem zop {e:Tree→Tree→Bool}:∀{l m:List Tree},l.length≠m.length→eqL e l m=false
 | [],[],h=>absurd rfl h
 | [],_::_,_=>rfl
 |_::_,[],_=>rfl
 |x::xs,y::ys,h=>by simp only [eqL];rw[zop (by simpa using h)];simp
theorem zge (e:Tree→Tree→Bool)(l m:List Tree)(hl:l.length≤140737488351232)(hm:m.length≤140737488351232)
  (hc:∀x∈l,∀y∈m,ACalls prog zal [zY,.c (.d (dV x)),.c (.d (dV y))] (fun r=>r=aV (.bool (e x y)))) (d:D) (hd:d=dL l∨d=dLp l):
  ACalls prog 349 [zY,.c (.d d),.c (.d (dL m))] (fun r=>r=aV (.bool (eqL e l m))):=by
 have hl2:l.length≤9223372036854775807:=by omega
 have hm2:m.length≤9223372036854775807:=by omega
 rcases hd with rfl|rfl
 all_goals
  by_cases hlen:l.length=m.length
  ·have hi:(l.length:Int)=m.length:=by omega
   by_cases hl0:l= []
   ·subst hl0
    have hm0:m= []:=List.eq_nil_of_length_eq_zero hlen.symm
    subst hm0
    refine zg [] func349 (by kernel_rfl) rfl ntmps349 results349 (Nat.le_of_ble_eq_true (by kernel_rfl)) ?_;intro hok w0 S0
    (repeat' (first|(with_reducible first|refine zl (fun _=>?_) (fun _=>?_)|refine zk (fun _=>?_) (fun _=>?_))|((with_reducible apply zbH [] (f:=346));(case hc=>simp -dsimp [hl2,hm2];first|exact ⟨rfl,rfl⟩|exact ⟨rfl,rfl,rfl⟩);(case hf=>exact func346);(case hA=>simp -dsimp [hl2,hm2]<;>with_reducible rfl);(case hok=>simp -dsimp [hl2,hm2]);(case hY=>simp -dsimp [hl2,hm2]<;>with_reducible rfl);(case hO=>simp -dsimp [hl2,hm2]<;>with_reducible rfl);(case hn=>kernel_rfl);(case hb=>rfl);(case hN=>exact ntmps346);(case hrs=>exact results346);(case hl=>exact Nat.le_of_ble_eq_true (by kernel_rfl));intro hok w0 S0)|((with_reducible apply zbH [] (f:=348));(case hc=>simp -dsimp [hl2,hm2];first|exact ⟨rfl,rfl⟩|exact ⟨rfl,rfl,rfl⟩);(case hf=>exact func348);(case hA=>simp -dsimp [hl2,hm2]<;>with_reducible rfl);(case hok=>simp -dsimp [hl2,hm2]);(case hY=>simp -dsimp [hl2,hm2]<;>with_reducible rfl);(case hO=>simp -dsimp [hl2,hm2]<;>with_reducible rfl);(case hn=>kernel_rfl);(case hb=>rfl);(case hN=>exact ntmps348);(case hrs=>exact results348);(case hl=>exact Nat.le_of_ble_eq_true (by kernel_rfl));intro hok w0 S0)|((with_reducible apply zce);(case hx=>simp -dsimp [hl2,hm2];with_reducible rfl);(case hd=>exact zbM))|(with_reducible first|refine zm zd (by kernel_rfl) ?_|exact zc rfl)|(simp -dsimp [hl2,hm2])));(all_goals try with_reducible refine zc ?_)
    refine zJ (fun _:Unit=>⟨[(0,zY),(7,.c (.io 470 21010 0)),(8,.c (.io 470 27010 0))],[(21010,.cells [] 471),(27010,.cells [] 471)]⟩) (fun _=>True) (fun _=>0) () ?_ trivial ?_
    ·exact Weak.same (by simp -dsimp) (by simp -dsimp) (by first|rfl|(simp [zj,Av.ids,Ow.ids,Cl.ids,Go.Smd.keys];done))
    ·rintro _ _ K hK
     (repeat' (first|(with_reducible first|refine zl (fun _=>?_) (fun _=>?_)|refine zk (fun _=>?_) (fun _=>?_))|((with_reducible apply zbH [] (f:=374));(case hc=>simp -dsimp;first|exact ⟨rfl,rfl⟩|exact ⟨rfl,rfl,rfl⟩);(case hf=>exact func374);(case hA=>simp -dsimp<;>with_reducible rfl);(case hok=>simp -dsimp);(case hY=>simp -dsimp<;>with_reducible rfl);(case hO=>simp -dsimp<;>with_reducible rfl);(case hn=>kernel_rfl);(case hb=>rfl);(case hN=>exact ntmps374);(case hrs=>exact results374);(case hl=>exact Nat.le_of_ble_eq_true (by kernel_rfl));intro hok w0 S0)|(with_reducible first|refine zm zd (by kernel_rfl) ?_|exact zc rfl)|(simp -dsimp)));(all_goals try with_reducible refine zc ?_)
     all_goals rfl
   ·have hm0:m≠ []:=fun h=>hl0 (List.eq_nil_of_length_eq_zero (by rw[hlen,h];rfl))
    refine zg [] func349 (by kernel_rfl) rfl ntmps349 results349 (Nat.le_of_ble_eq_true (by kernel_rfl)) ?_;intro hok w0 S0
    (repeat' (first|(with_reducible first|refine zl (fun _=>?_) (fun _=>?_)|refine zk (fun _=>?_) (fun _=>?_))|((with_reducible apply zbH [] (f:=346));(case hc=>simp -dsimp [hl2,hm2,hi,hl0,hm0];first|exact ⟨rfl,rfl⟩|exact ⟨rfl,rfl,rfl⟩);(case hf=>exact func346);(case hA=>simp -dsimp [hl2,hm2,hi,hl0,hm0]<;>with_reducible rfl);(case hok=>simp -dsimp [hl2,hm2,hi,hl0,hm0]);(case hY=>simp -dsimp [hl2,hm2,hi,hl0,hm0]<;>with_reducible rfl);(case hO=>simp -dsimp [hl2,hm2,hi,hl0,hm0]<;>with_reducible rfl);(case hn=>kernel_rfl);(case hb=>rfl);(case hN=>exact ntmps346);(case hrs=>exact results346);(case hl=>exact Nat.le_of_ble_eq_true (by kernel_rfl));intro hok w0 S0)|((with_reducible apply zbH [] (f:=348));(case hc=>simp -dsimp [hl2,hm2,hi,hl0,hm0];first|exact ⟨rfl,rfl⟩|exact ⟨rfl,rfl,rfl⟩);(case hf=>exact func348);(case hA=>simp -dsimp [hl2,hm2,hi,hl0,hm0]<;>with_reducible rfl);(case hok=>simp -dsimp [hl2,hm2,hi,hl0,hm0]);(case hY=>simp -dsimp [hl2,hm2,hi,hl0,hm0]<;>with_reducible rfl);(case hO=>simp -dsimp [hl2,hm2,hi,hl0,hm0]<;>with_reducible rfl);(case hn=>kernel_rfl);(case hb=>rfl);(case hN=>exact ntmps348);(case hrs=>exact results348);(case hl=>exact Nat.le_of_ble_eq_true (by kernel_rfl));intro hok w0 S0)|((with_reducible apply zbH [] (f:=336));(case hc=>simp -dsimp [hl2,hm2,hi,hl0,hm0];first|exact ⟨rfl,rfl⟩|exact ⟨rfl,rfl,rfl⟩);(case hf=>exact func336);(case hA=>simp -dsimp [hl2,hm2,hi,hl0,hm0]<;>with_reducible rfl);(case hok=>simp -dsimp [hl2,hm2,hi,hl0,hm0]);(case hY=>simp -dsimp [hl2,hm2,hi,hl0,hm0]<;>with_reducible rfl);(case hO=>simp -dsimp [hl2,hm2,hi,hl0,hm0]<;>with_reducible rfl);(case hn=>kernel_rfl);(case hb=>rfl);(case hN=>exact ntmps336);(case hrs=>exact results336);(case hl=>exact Nat.le_of_ble_eq_true (by kernel_rfl));intro hok w0 S0)|((with_reducible apply zce);(case hx=>simp -dsimp [hl2,hm2,hi,hl0,hm0];with_reducible rfl);(case hd=>exact zbM))|(with_reducible first|refine zm zd (by kernel_rfl) ?_|exact zc rfl)|(simp -dsimp [hl2,hm2,hi,hl0,hm0])));(all_goals try with_reducible refine zc ?_)
    refine zJ (fun i:Nat=>⟨[(0,zY),(7,.c (.io 467 35006 0)),(8,.c (.io 467 41006 0))],[(35006,ziu l 35004 ((i:Int) - 1)),(35004,cVU (yv l i)),(41006,ziu m 41004 ((i:Int) - 1)),(41004,cVU (yv m i))]⟩) (fun i=>i≤l.length∧eqL e l m=eqL e (l.drop i) (m.drop i)) (fun i=>l.length - i) 0 ?_ ⟨Nat.zero_le _,rfl⟩ ?_
    ·exact Weak.same (by simp -dsimp [yv]) (by simp -dsimp [yv]) (by first|rfl|(simp [zj,Av.ids,Ow.ids,Cl.ids,Go.Smd.keys];done))
    ·rintro i ⟨hi1,hi3⟩ K hK
     have a1:((i:Int) - 1)+1=(i:Int):=by omega
     have hn1:=zgK l ((i:Int) - 1) (by omega) (by omega) hl (yv l i)
     have hn2:=zgK m ((i:Int) - 1) (by omega) (by omega) hm (yv m i)
     rw[a1] at hn1 hn2
     by_cases c1:i<l.length
     ·have c2:i<m.length:=by omega
      have hcons:eqL e (l.drop i) (m.drop i)=(e l[i] m[i] && eqL e (l.drop (i+1)) (m.drop (i+1))):=by rw[List.drop_eq_getElem_cons c1,List.drop_eq_getElem_cons c2];rfl
      have hi:((i:Int)<l.length):=by omega
      have hj:((i:Int)<m.length):=by omega
      (repeat' (first|(with_reducible first|refine zl (fun _=>?_) (fun _=>?_)|refine zk (fun _=>?_) (fun _=>?_))|((with_reducible apply zbZ (ρ:=[(1000000000,35006),(1000000001,35004)]) 7 (hn1));(case hc=>simp -dsimp [c1,c2,hi,hj]<;>first|exact ⟨rfl,rfl,rfl⟩|exact ⟨rfl,rfl⟩|done);(case hx=>simp -dsimp [c1,c2,hi,hj]<;>with_reducible rfl);(case ho=>simp -dsimp [c1,c2,hi,hj]);(case hh=>simp -dsimp [c1,c2,hi,hj]);(case hb=>simp -dsimp [c1,c2,hi,hj]))|((with_reducible apply zbZ (ρ:=[(1000000000,41006),(1000000001,41004)]) 7 (hn2));(case hc=>simp -dsimp [c1,c2,hi,hj]<;>first|exact ⟨rfl,rfl,rfl⟩|exact ⟨rfl,rfl⟩|done);(case hx=>simp -dsimp [c1,c2,hi,hj]<;>with_reducible rfl);(case ho=>simp -dsimp [c1,c2,hi,hj]);(case hh=>simp -dsimp [c1,c2,hi,hj]);(case hb=>simp -dsimp [c1,c2,hi,hj]))|((with_reducible apply zbZ (ρ:=[(1000000000,35006),(1000000001,35004)]) 7 (zlg l i c1 hl (yv l i)));(case hc=>simp -dsimp [c1,c2,hi,hj]<;>first|exact ⟨rfl,rfl,rfl⟩|exact ⟨rfl,rfl⟩|done);(case hx=>simp -dsimp [c1,c2,hi,hj]<;>with_reducible rfl);(case ho=>simp -dsimp [c1,c2,hi,hj]);(case hh=>simp -dsimp [c1,c2,hi,hj]);(case hb=>simp -dsimp [c1,c2,hi,hj]))|((with_reducible apply zbZ (ρ:=[(1000000000,41006),(1000000001,41004)]) 7 (zlg m i c2 hm (yv m i)));(case hc=>simp -dsimp [c1,c2,hi,hj]<;>first|exact ⟨rfl,rfl,rfl⟩|exact ⟨rfl,rfl⟩|done);(case hx=>simp -dsimp [c1,c2,hi,hj]<;>with_reducible rfl);(case ho=>simp -dsimp [c1,c2,hi,hj]);(case hh=>simp -dsimp [c1,c2,hi,hj]);(case hb=>simp -dsimp [c1,c2,hi,hj]))|(with_reducible first|refine zum (hc _ (List.getElem_mem c1) _ (List.getElem_mem c2)) (by first|rfl|(simp -dsimp [c1,c2,hi,hj];done)) rfl ?_|refine zm zd (by kernel_rfl) ?_|exact zc rfl)|(simp -dsimp [c1,c2,hi,hj])));(all_goals try with_reducible refine zc ?_)
      ·rename_i hn
       have hn:e l[i] m[i]=false:=by simpa using hn
       rw[hi3,hcons,hn];rfl
      ·rename_i hn
       have hn:e l[i] m[i]=true:=by simpa using hn
       refine hK _ (i+1) ?_ ⟨by omega,by rw[hi3,hcons,hn];rfl⟩ (by omega)
       have a3:(((i+1:Nat):Int) - 1)=i:=by omega
       have hy1:yv l (i+1)= .tr l[i]:=by simp [yv,c1]
       have hy2:yv m (i+1)= .tr m[i]:=by simp [yv,c2]
       exact Weak.same (by simp -dsimp [a3,hy1,hy2]) (by simp -dsimp [a3,hy1,hy2]) (by first|rfl|(simp [zj,Av.ids,Ow.ids,Cl.ids,Go.Smd.keys];done))
     ·have hi:¬((i:Int)<l.length):=by omega
      have hj:¬((i:Int)<m.length):=by omega
      (repeat' (first|(with_reducible first|refine zl (fun _=>?_) (fun _=>?_)|refine zk (fun _=>?_) (fun _=>?_))|((with_reducible apply zbZ (ρ:=[(1000000000,35006),(1000000001,35004)]) 7 (hn1));(case hc=>simp -dsimp [c1,hi,hj]<;>first|exact ⟨rfl,rfl,rfl⟩|exact ⟨rfl,rfl⟩|done);(case hx=>simp -dsimp [c1,hi,hj]<;>with_reducible rfl);(case ho=>simp -dsimp [c1,hi,hj]);(case hh=>simp -dsimp [c1,hi,hj]);(case hb=>simp -dsimp [c1,hi,hj]))|((with_reducible apply zbZ (ρ:=[(1000000000,41006),(1000000001,41004)]) 7 (hn2));(case hc=>simp -dsimp [c1,hi,hj]<;>first|exact ⟨rfl,rfl,rfl⟩|exact ⟨rfl,rfl⟩|done);(case hx=>simp -dsimp [c1,hi,hj]<;>with_reducible rfl);(case ho=>simp -dsimp [c1,hi,hj]);(case hh=>simp -dsimp [c1,hi,hj]);(case hb=>simp -dsimp [c1,hi,hj]))|(with_reducible first|refine zm zd (by kernel_rfl) ?_|exact zc rfl)|(simp -dsimp [c1,hi,hj])));(all_goals try with_reducible refine zc ?_)
      all_goals (rw[hi3,List.drop_eq_nil_of_le (show l.length≤i by omega),List.drop_eq_nil_of_le (show m.length≤i by omega)];rfl)
  ·have hi:¬(l.length:Int)=m.length:=by omega
   refine zg [] func349 (by kernel_rfl) rfl ntmps349 results349 (Nat.le_of_ble_eq_true (by kernel_rfl)) ?_;intro hok w0 S0
   (repeat' (first|(with_reducible first|refine zl (fun _=>?_) (fun _=>?_)|refine zk (fun _=>?_) (fun _=>?_))|((with_reducible apply zbH [] (f:=346));(case hc=>simp -dsimp [hl2,hm2,hi];first|exact ⟨rfl,rfl⟩|exact ⟨rfl,rfl,rfl⟩);(case hf=>exact func346);(case hA=>simp -dsimp [hl2,hm2,hi]<;>with_reducible rfl);(case hok=>simp -dsimp [hl2,hm2,hi]);(case hY=>simp -dsimp [hl2,hm2,hi]<;>with_reducible rfl);(case hO=>simp -dsimp [hl2,hm2,hi]<;>with_reducible rfl);(case hn=>kernel_rfl);(case hb=>rfl);(case hN=>exact ntmps346);(case hrs=>exact results346);(case hl=>exact Nat.le_of_ble_eq_true (by kernel_rfl));intro hok w0 S0)|(with_reducible first|refine zm zd (by kernel_rfl) ?_|exact zc rfl)|(simp -dsimp [hl2,hm2,hi])));(all_goals try with_reducible refine zc ?_)
   all_goals (rw[zop hlen])
def OwnS (w:World)(B:Nat)(v:Value)(ss:List ByteArray):Prop:=w.ownsRow B 9 1 v ss.length (ss.map Value.string)
theorem OwnS.nil (w:World)(B:Nat):OwnS w B (.slice none 0 0) []:=⟨rfl,.inl ⟨rfl,rfl⟩⟩
theorem OwnS.kept {w w':World}{B:Nat}{v:Value}{ss:List ByteArray}{row:Option Nat}(h:OwnS w B v ss)(hg:w.grownBy w' row)(hne:v.ownBlock=none∨v.ownBlock≠row):OwnS w' B v ss:=World.ownsRow.kept h hg hne
theorem OwnS.ne {w:World}{B:Nat}{v:Value}{ss:List ByteArray}(h:OwnS w B v ss){b:Nat}(hb:b<B):v.ownBlock≠some b:=fun e=>by have:=(World.ownsRow.lt h b e).1;omega
theorem OwnS.form {w:World}{B:Nat}{v:Value}{ss:List ByteArray}(h:OwnS w B v ss):∃A c,v= .slice A ss.length c∧ss.length≤c:=by
 rcases h.2 with ⟨h',hn⟩|⟨g',cap',cur,h',_,hg,hnc,_⟩
 ·exact ⟨none,0,by rw[h',hn],by omega⟩
 ·exact ⟨_,_,h',hnc⟩
theorem OwnS.cell {w:World}{B g c:Nat}{n:Nat}{ss:List ByteArray}(h:OwnS w B (.slice (some ⟨g,0,none⟩) n c) ss)(hn:n=ss.length){j:Nat}{s:ByteArray}(hj:ss[j]? =some s):w.cell? ⟨g,j,none⟩=some (.string s):=by
 subst hn
 rw[World.ownsRow.cellAt h j (by have:=(List.getElem?_eq_some_iff.1 hj).1;omega),List.getElem?_map,hj];rfl
theorem OwnS.set {w:World}{B g c n:Nat}{ss:List ByteArray}(h:OwnS w B (.slice (some ⟨g,0,none⟩) n c) ss)(hn:n=ss.length)(j:Nat)(s:ByteArray):
  OwnS (w.setCell ⟨g,j,none⟩ (.string s)) B (.slice (some ⟨g,0,none⟩) n c) (ss.set j s)∧w.grownBy (w.setCell ⟨g,j,none⟩ (.string s)) (some g):=by
 subst hn
 have:=World.ownsRow.stored h j (.string s)
 unfold OwnS
 rw[List.length_set,List.map_set];exact this
theorem OwnS.push {w:World}{B:Nat}{v:Value}{ss:List ByteArray}(h:OwnS w B v ss)(s:ByteArray)(ty:TypeId)(hB:B≤w.heap.size)(hn:(ss.length+1)*16≤140737488355328):
  ∃v' w',(Builtin.append_ #[24,24] ty #[v,.slice (some ⟨w.heap.size,0,none⟩) 1 1]).run prog (w.alloc (.cells #[.string s] 9))= .ok v' w'∧OwnS w' B v' (ss++ [s])∧w.grownBy w' v.ownBlock:=by
 obtain ⟨i,hi,hz,hs,hb⟩:=info_parts zhK
 obtain ⟨v',w',hr,ho,hg,_⟩:=run_append_own (P:=prog) (w.alloc (.cells #[.string s] 9)) B 24 ty 9 i _ 1 16 underlying24 hi hz hs hb rfl (by omega) v ss.length (ss.map .string) (World.ownsRow.alloc h _)
  ⟨w.heap.size,0,none⟩ 1 1 [.string s] rfl (by simpa using World.news_of_block (cs:= #[.string s]) (t:=9) (fr:=(0,0)) (heap_alloc_new w (.cells #[.string s] 9))) (by simp [Value.oneCell']) (by simp only [maxLen];omega) hn (by rw[zC];omega)
 refine ⟨v',w',hr,?_,World.grownBy.trans (World.grownBy_alloc w (.cells #[.string s] 9) v.ownBlock) hg⟩
 unfold OwnS
 rw[List.length_append,List.map_append];exact ho
def zaq (k:ByteArray)(ss:List ByteArray)(j:Nat):List ByteArray:=ss.take j++k::ss.drop j
theorem zam (k:ByteArray)(ss:List ByteArray)(j:Nat):(zaq k ss j).length=ss.length+1:=by simp [zaq];omega
theorem zj5 (k:ByteArray)(ss:List ByteArray):zaq k ss ss.length=ss++ [k]:=by simp [zaq]
theorem zix (k:ByteArray){ss:List ByteArray}{j:Nat}(h:j≤ss.length):(zaq k ss j)[j]? =some k:=by
 unfold zaq;rw[List.getElem?_append_right (by simp;omega)];simp [Nat.min_eq_left h]
theorem ziy (k:ByteArray){ss:List ByteArray}{j:Nat}{s:ByteArray}(h:ss[j]? =some s):(zaq k ss (j+1))[j]? =some s:=by
 have:=(List.getElem?_eq_some_iff.1 h).1
 unfold zaq;rw[List.getElem?_append_left (by simp;omega),List.getElem?_take,if_pos (by omega),h]
theorem znC (k:ByteArray){ss:List ByteArray}{j:Nat}{s:ByteArray}(h:ss[j]? =some s):((zaq k ss (j+1)).set (j+1) s).set j k=zaq k ss j:=by
 have hlt:=(List.getElem?_eq_some_iff.1 h).1
 apply List.ext_getElem?
 intro i
 have hl:(zaq k ss (j+1)).length=ss.length+1:=zam _ _ _
 rw[List.getElem?_set,List.getElem?_set]
 simp only [List.length_set,hl]
 by_cases h1:j=i
 ·subst h1;rw[if_pos rfl,if_pos (by omega),zix k (by omega)]
 ·rw[if_neg h1]
  by_cases h2:j+1=i
  ·subst h2
   rw[if_pos rfl,if_pos (by omega)]
   unfold zaq
   rw[List.getElem?_append_right (by simp;omega)]
   simp only [List.length_take,Nat.min_eq_left (show j≤ss.length by omega),show j+1 - j=1 by omega,List.getElem?_cons_succ,List.getElem?_drop,Nat.add_zero]
   exact h.symm
  ·rw[if_neg h2]
   unfold zaq
   rcases Nat.lt_or_ge i j with hi|hi
   ·rw[List.getElem?_append_left (by simp;omega),List.getElem?_append_left (by simp;omega),List.getElem?_take,List.getElem?_take,if_pos (by omega),if_pos hi]
   ·rw[List.getElem?_append_right (by simp;omega),List.getElem?_append_right (by simp;omega)]
    simp only [List.length_take,Nat.min_eq_left (show j≤ss.length by omega),Nat.min_eq_left (show j+1≤ss.length by omega)]
    obtain ⟨p,rfl⟩:∃p,i=j+2+p:=⟨i - (j+2),by omega⟩
    rw[show j+2+p - (j+1)=p+1 by omega,show j+2+p - j=p+2 by omega]
    simp only [List.getElem?_cons_succ,List.getElem?_drop]
    congr 1;omega
theorem zcX {k:ByteArray}{ss:List ByteArray}{j:Nat}(hs:ss.Pairwise fun a b=>blt a b=true)(h1:∀q∈ss.take j,blt q k=true)(h2:∀q∈ss.drop j,blt k q=true):(zaq k ss j).Pairwise fun a b=>blt a b=true:=by
 unfold zaq
 rw[List.pairwise_append]
 refine ⟨hs.sublist (List.take_sublist _ _),List.pairwise_cons.2 ⟨h2,hs.sublist (List.drop_sublist _ _)⟩,fun a ha b hb=>?_⟩
 rcases List.mem_cons.1 hb with rfl|hb
 ·exact h1 a ha
 ·exact ZD (h1 a ha) (h2 b hb)
theorem zff:∀{a b:List ByteArray},a.Pairwise (fun a b=>blt a b=true)→b.Pairwise (fun a b=>blt a b=true)→(∀q,q∈a↔q∈b)→a=b
 | [],[],_,_,_=>rfl
 | [],y::b,_,_,h=>by have:=(h y).2 (List.mem_cons_self ..);cases this
 |x::a,[],_,_,h=>by have:=(h x).1 (List.mem_cons_self ..);cases this
 |x::a,y::b,ha,hb,h=>by
  rw[List.pairwise_cons] at ha hb
  have hxy:x=y:=by
   rcases List.mem_cons.1 ((h x).1 (List.mem_cons_self ..)) with e|hx
   ·exact e
   ·rcases List.mem_cons.1 ((h y).2 (List.mem_cons_self ..)) with e|hy
    ·exact e.symm
    ·have h1:=hb.1 x hx
     have h2:=ha.1 y hy
     rw[zjZ h1] at h2;cases h2
  subst hxy
  rw[zff ha.2 hb.2 fun q=>?_]
  constructor
  ·intro hq
   rcases List.mem_cons.1 ((h q).1 (List.mem_cons_of_mem _ hq)) with rfl|h'
   ·have:=ha.1 q hq;rw[zX] at this;cases this
   ·exact h'
  ·intro hq
   rcases List.mem_cons.1 ((h q).2 (List.mem_cons_of_mem _ hq)) with rfl|h'
   ·have:=hb.1 q hq;rw[zX] at this;cases this
   ·exact h'
end Go.Smd
end
