/- Part 18. -/
import Derived.Test.YtdgnolbdcmgfoaaGreatQD14
import Derived.Test.YtdgnolbdcmgfoaaGreatQD17
import Derived.Test.YtdgnolbdcmgfoaaGreatQD01
import Derived.Lib.Bytealg
import Derived.Laws.FloatBits
import Derived.Test.YtdgnolbdcmgfoaaGreatQD02
import Derived.Test.YtdgnolbdcmgfoaaGreatQD11
import Derived.Test.YtdgnolbdcmgfoaaGreatQD09
set_option linter.unusedVariables false
set_option linter.unusedSimpArgs false
set_option maxRecDepth 100000
set_option maxHeartbeats 8000000
section
namespace Go.Smd
open Go.RowKit Go.Proofs Go.Proofs.Tryz
def zA (a b:Int):Int:=if b<a then 1 else if a<b then -1 else 0
theorem zk5 (a b:Int):ACalls prog 248 [aV (.int .i64 a),aV (.int .i64 b)] (fun r=>r=aV (.int .i64 (zA a b))):=by
 refine zf [] func248 (by kernel_rfl) rfl ntmps248 results248 (Nat.le_of_ble_eq_true (by kernel_rfl)) ?_;intro hok w0 S0
 (repeat' (first|(with_reducible first|refine zj (fun _=>?_) (fun _=>?_)|refine zi (fun _=>?_) (fun _=>?_)|refine zk zb (by kernel_rfl) ?_|exact za rfl)|(simp -dsimp)));(all_goals try with_reducible refine za ?_)
 ·have h:b<a:=by assumption
  unfold zA;rw[if_pos h]
 ·have h:¬b<a:=by assumption
  have h':a<b:=by assumption
  unfold zA;rw[if_neg h,if_pos h']
 ·have h:¬b<a:=by assumption
  have h':¬a<b:=by assumption
  unfold zA;rw[if_neg h,if_neg h']
def zvs:Bool→Bool→Int
 |false,true=> -1
 |true,false=>1
 |_,_=>0
theorem zi7 (a b:Bool):ACalls prog 249 [aV (.bool a),aV (.bool b)] (fun r=>r=aV (.int .i64 (zvs a b))):=by
 cases a<;>cases b
 all_goals
  refine zf [] func249 (by kernel_rfl) rfl ntmps249 results249 (Nat.le_of_ble_eq_true (by kernel_rfl)) ?_;intro hok w0 S0
  (repeat' (first|(with_reducible first|refine zj (fun _=>?_) (fun _=>?_)|refine zi (fun _=>?_) (fun _=>?_)|refine zk zb (by kernel_rfl) ?_|exact za rfl)|(simp -dsimp)));(all_goals try with_reducible refine za ?_)
  all_goals rfl
def zaO (a b:Nat):Int:=if (FloatKind.f64.format.order a b==some .gt)=true then 1 else if (FloatKind.f64.format.order a b==some .lt)=true then -1 else 0
theorem zid (a b:Nat):ACalls prog 247 [aV (.float .f64 a),aV (.float .f64 b)] (fun r=>r=aV (.int .i64 (zaO a b))):=by
 refine zf [] func247 (by kernel_rfl) rfl ntmps247 results247 (Nat.le_of_ble_eq_true (by kernel_rfl)) ?_;intro hok w0 S0
 (repeat' (first|(with_reducible first|refine zj (fun _=>?_) (fun _=>?_)|refine zi (fun _=>?_) (fun _=>?_)|refine zk zb (by kernel_rfl) ?_|exact za rfl)|(simp -dsimp)));(all_goals try with_reducible refine za ?_)
 ·rename_i h
  unfold zaO;rw[if_pos h]
 ·rename_i h h'
  unfold zaO;rw[if_neg (by rw[h];simp),if_pos h']
 ·rename_i h h'
  unfold zaO;rw[if_neg (by rw[h];simp),if_neg (by rw[h'];simp)]
theorem zl7 (a b:ByteArray)(w:World):Calls prog 230 #[.string a,.string b] w fun e w'=>e= .returned (.int .i64 (Lib.compareBytes a.data.toList b.data.toList))∧w'=w:=by
 go_enter func230,ntmps230
 go_wp2
 rw[run_callFunc_extern func246 (by kernel_rfl) (by kernel_rfl) (by kernel_rfl) (e:=Extern.BytealgCompare.compare) (by kernel_rfl),Lib.run_compareString]
 simp only [Result.andThen]
 rw[Oper.upon_value]
 go_wp2
 go_ret
 exact ⟨rfl,rfl⟩
theorem zgV:∀l m:List UInt8,Lib.compareBytes l m= -1∨Lib.compareBytes l m=0∨Lib.compareBytes l m=1
 | [],[]=>by simp [Lib.compareBytes]
 | [],_::_=>by simp [Lib.compareBytes]
 |_::_,[]=>by simp [Lib.compareBytes]
 |x::l,y::m=>by
  have:=zgV l m
  simp only [Lib.compareBytes]
  repeat' split
  all_goals first|exact this|simp
theorem zl8 (a b:ByteArray):ACalls prog 230 [aV (.string a),aV (.string b)] (fun r=>r=aV (.int .i64 (Lib.compareBytes a.data.toList b.data.toList))):=by
 refine ⟨⟨_,func230,by kernel_rfl,by kernel_rfl⟩,fun w S vs hS ha=>?_⟩
 cases ha with
 |cons h1 t=>cases t with
  |cons h2 t=>cases t with
   |nil=>
    obtain ⟨rfl,_⟩:=ZL h1
    obtain ⟨rfl,_⟩:=ZL h2
    refine (zl7 a b w).mono ?_
    rintro e w' ⟨rfl,rfl⟩
    exact ⟨_,_,rfl,rfl,ZU (by rcases zgV a.data.toList b.data.toList with h|h|h<;>rw[h]<;>rfl),Ext.refl _⟩
theorem zfU (a b:ByteArray):ACalls prog 198 [aV (.string a),aV (.string b)] (fun r=>r=aV (.int .i64 (Lib.compareBytes a.data.toList b.data.toList))):=by
 refine zf [] func198 (by kernel_rfl) rfl ntmps198 results198 (Nat.le_of_ble_eq_true (by kernel_rfl)) ?_;intro hok w0 S0
 (repeat' (first|(with_reducible first|refine zj (fun _=>?_) (fun _=>?_)|refine zi (fun _=>?_) (fun _=>?_)|refine zl (zl8 a b) (by first|rfl|(simp -dsimp;done)) ?_|refine zk zb (by kernel_rfl) ?_|exact za rfl)|(simp -dsimp)));(all_goals try with_reducible refine za ?_)
 all_goals rfl
def zi8 (n:Int):Nat:=FloatKind.f64.nearest n
theorem ztF (n:Int):zi8 n<18446744073709551616:=Nat.lt_of_lt_of_eq (Ieee.Format.write_lt Ieee.double (.number (decide (n<0)) n.natAbs 0)) (by kernel_rfl)
theorem zvt (n:Int):zn prog (convert 2 25 (.int .i64 n))=some (.float .f64 (zi8 n)):=by kernel_rfl
theorem zat (n:Int):zH prog (convert 2 25 (.int .i64 n))=some (.c (.d (.v (.float .f64 (zi8 n))))):=by
 unfold zH;rw[zvt];simp [z7,ztF]
def zvu (cl:List Tree→List Tree→Int)(cm:List (ByteArray×Tree)→List (ByteArray×Tree)→Int):Tree→Tree→Int
 | .float a,.float b=>zaO a b
 | .float a,.int b=>zaO a (zi8 b)
 | .float _,_=> -1
 | .int a,.float b=>zaO (zi8 a) b
 |_,.float _=>1
 | .int a,.int b=>zA a b
 | .int _,_=> -1
 |_,.int _=>1
 | .str a,.str b=>Lib.compareBytes a.data.toList b.data.toList
 | .str _,_=> -1
 |_,.str _=>1
 | .bool a,.bool b=>zvs a b
 | .bool _,_=> -1
 |_,.bool _=>1
 | .list a,.list b=>cl a b
 | .list _,_=> -1
 |_,.list _=>1
 | .map a,.map b=>cm a b
 | .map _,_=> -1
 |_,.map _=>1
 | .nil,.nil=>0
theorem zie (cl:List Tree→List Tree→Int)(cm:List (ByteArray×Tree)→List (ByteArray×Tree)→Int)(x y:Tree)
  (hL:∀l m,x= .list l→y= .list m→ACalls prog 250 [Z4,.c (.d (dL l)),.c (.d (dL m))] (fun r=>r=aV (.int .i64 (cl l m))))
  (hM:∀l m,x= .map l→y= .map m→ACalls prog 251 [Z4,.c (.d (dM l)),.c (.d (dM m))] (fun r=>r=aV (.int .i64 (cm l m)))):
  ACalls prog zbm [Z4,.c (.d (dV x)),.c (.d (dV y))] (fun r=>r=aV (.int .i64 (zvu cl cm x y))):=by
 cases x<;>cases y
 all_goals
  refine zf [] func231 (by kernel_rfl) rfl ntmps231 results231 (Nat.le_of_ble_eq_true (by kernel_rfl)) ?_;intro hok w0 S0
  (repeat' (first|(with_reducible first|refine zj (fun _=>?_) (fun _=>?_)|refine zi (fun _=>?_) (fun _=>?_)|refine zl (zpo _) (by first|rfl|(simp -dsimp [zat,Zo,zar,z6,ZJ,ZK,zas,Zg];done)) ?_|refine zl (ztC _) (by first|rfl|(simp -dsimp [zat,Zo,zar,z6,ZJ,ZK,zas,Zg];done)) ?_|refine zl (znk _) (by first|rfl|(simp -dsimp [zat,Zo,zar,z6,ZJ,ZK,zas,Zg];done)) ?_|refine zl (zrj _) (by first|rfl|(simp -dsimp [zat,Zo,zar,z6,ZJ,ZK,zas,Zg];done)) ?_|refine zl (zrk _) (by first|rfl|(simp -dsimp [zat,Zo,zar,z6,ZJ,ZK,zas,Zg];done)) ?_|refine zl (ztD _) (by first|rfl|(simp -dsimp [zat,Zo,zar,z6,ZJ,ZK,zas,Zg];done)) ?_|refine zl (zrl _) (by first|rfl|(simp -dsimp [zat,Zo,zar,z6,ZJ,ZK,zas,Zg];done)) ?_|refine zl (zpp _) (by first|rfl|(simp -dsimp [zat,Zo,zar,z6,ZJ,ZK,zas,Zg];done)) ?_|refine zl (ztE _) (by first|rfl|(simp -dsimp [zat,Zo,zar,z6,ZJ,ZK,zas,Zg];done)) ?_|refine zl (znl _) (by first|rfl|(simp -dsimp [zat,Zo,zar,z6,ZJ,ZK,zas,Zg];done)) ?_|refine zl (zrm _) (by first|rfl|(simp -dsimp [zat,Zo,zar,z6,ZJ,ZK,zas,Zg];done)) ?_|refine zl (zi6 _ zeB) (by first|rfl|(simp -dsimp [zat,Zo,zar,z6,ZJ,ZK,zas,Zg];done)) ?_|refine zl (zk0 _ zeB) (by first|rfl|(simp -dsimp [zat,Zo,zar,z6,ZJ,ZK,zas,Zg];done)) ?_|refine zl (zid _ _) (by first|rfl|(simp -dsimp [zat,Zo,zar,z6,ZJ,ZK,zas,Zg];done)) ?_|refine zl (zk5 _ _) (by first|rfl|(simp -dsimp [zat,Zo,zar,z6,ZJ,ZK,zas,Zg];done)) ?_|refine zl (zfU _ _) (by first|rfl|(simp -dsimp [zat,Zo,zar,z6,ZJ,ZK,zas,Zg];done)) ?_|refine zl (zi7 _ _) (by first|rfl|(simp -dsimp [zat,Zo,zar,z6,ZJ,ZK,zas,Zg];done)) ?_|refine zl (hL _ _ rfl rfl) (by first|rfl|(simp -dsimp [zat,Zo,zar,z6,ZJ,ZK,zas,Zg];done)) ?_|refine zl (hM _ _ rfl rfl) (by first|rfl|(simp -dsimp [zat,Zo,zar,z6,ZJ,ZK,zas,Zg];done)) ?_)|((with_reducible apply zfP);(case hx=>simp -dsimp [zat,Zo,zar,z6,ZJ,ZK,zas,Zg];with_reducible rfl);(case hd=>exact zfS))|(with_reducible first|refine zk zb (by kernel_rfl) ?_|exact za rfl)|(simp -dsimp [zat,Zo,zar,z6,ZJ,ZK,zas,Zg])));(all_goals try with_reducible refine za ?_)
 all_goals rfl
def OwnS (w:World)(B:Nat)(v:Value)(ss:List ByteArray):Prop:=w.ownsRow B 9 1 v ss.length (ss.map Value.string)
theorem OwnS.nil (w:World)(B:Nat):OwnS w B (.slice none 0 0) []:=⟨rfl,.inl ⟨rfl,rfl⟩⟩
theorem OwnS.kept {w w':World}{B:Nat}{v:Value}{ss:List ByteArray}{row:Option Nat}(h:OwnS w B v ss)(hg:w.grownBy w' row)(hne:v.ownBlock=none∨v.ownBlock≠row):OwnS w' B v ss:=World.ownsRow.kept h hg hne
theorem OwnS.ne {w:World}{B:Nat}{v:Value}{ss:List ByteArray}(h:OwnS w B v ss){b:Nat}(hb:b<B):v.ownBlock≠some b:=fun e=>by have:=(World.ownsRow.lt h b e).1;omega
theorem OwnS.form {w:World}{B:Nat}{v:Value}{ss:List ByteArray}(h:OwnS w B v ss):∃A c,v= .slice A ss.length c∧ss.length≤c:=by
 rcases h.2 with ⟨h',hn⟩|⟨g',cap',cur,h',_,hg,hnc,_⟩
 ·exact ⟨none,0,by rw[h',hn],by omega⟩
 ·exact ⟨_,_,h',hnc⟩
theorem OwnS.cell {w:World}{B g c:Nat}{n:Nat}{ss:List ByteArray}(h:OwnS w B (.slice (some ⟨g,0,none⟩) n c) ss)(hn:n=ss.length){j:Nat}{s:ByteArray}(hj:ss[j]? =some s):w.cell? ⟨g,j,none⟩=some (.string s):=by
 subst hn
 rw[World.ownsRow.cellAt h j (by have:=(List.getElem?_eq_some_iff.1 hj).1;omega),List.getElem?_map,hj];rfl
theorem OwnS.set {w:World}{B g c n:Nat}{ss:List ByteArray}(h:OwnS w B (.slice (some ⟨g,0,none⟩) n c) ss)(hn:n=ss.length)(j:Nat)(s:ByteArray):
  OwnS (w.setCell ⟨g,j,none⟩ (.string s)) B (.slice (some ⟨g,0,none⟩) n c) (ss.set j s)∧w.grownBy (w.setCell ⟨g,j,none⟩ (.string s)) (some g):=by
 subst hn
 have:=World.ownsRow.stored h j (.string s)
 unfold OwnS
 rw[List.length_set,List.map_set];exact this
theorem OwnS.push {w:World}{B:Nat}{v:Value}{ss:List ByteArray}(h:OwnS w B v ss)(s:ByteArray)(ty:TypeId)(hB:B≤w.heap.size)(hn:(ss.length+1)*16≤140737488355328):
  ∃v' w',(Builtin.append_ #[24,24] ty #[v,.slice (some ⟨w.heap.size,0,none⟩) 1 1]).run prog (w.alloc (.cells #[.string s] 9))= .ok v' w'∧OwnS w' B v' (ss++ [s])∧w.grownBy w' v.ownBlock:=by
 obtain ⟨i,hi,hz,hs,hb⟩:=info_parts zhv
 obtain ⟨v',w',hr,ho,hg,_⟩:=run_append_own (P:=prog) (w.alloc (.cells #[.string s] 9)) B 24 ty 9 i _ 1 16 underlying24 hi hz hs hb rfl (by omega) v ss.length (ss.map .string) (World.ownsRow.alloc h _)
  ⟨w.heap.size,0,none⟩ 1 1 [.string s] rfl (by simpa using World.news_of_block (cs:= #[.string s]) (t:=9) (fr:=(0,0)) (heap_alloc_new w (.cells #[.string s] 9))) (by simp [Value.oneCell']) (by simp only [maxLen];omega) hn (by rw[zz];omega)
 refine ⟨v',w',hr,?_,World.grownBy.trans (World.grownBy_alloc w (.cells #[.string s] 9) v.ownBlock) hg⟩
 unfold OwnS
 rw[List.length_append,List.map_append];exact ho
def zak (k:ByteArray)(ss:List ByteArray)(j:Nat):List ByteArray:=ss.take j++k::ss.drop j
theorem zad (k:ByteArray)(ss:List ByteArray)(j:Nat):(zak k ss j).length=ss.length+1:=by simp [zak];omega
theorem zjL (k:ByteArray)(ss:List ByteArray):zak k ss ss.length=ss++ [k]:=by simp [zak]
theorem zif (k:ByteArray){ss:List ByteArray}{j:Nat}(h:j≤ss.length):(zak k ss j)[j]? =some k:=by
 unfold zak;rw[List.getElem?_append_right (by simp;omega)];simp [Nat.min_eq_left h]
theorem zig (k:ByteArray){ss:List ByteArray}{j:Nat}{s:ByteArray}(h:ss[j]? =some s):(zak k ss (j+1))[j]? =some s:=by
 have:=(List.getElem?_eq_some_iff.1 h).1
 unfold zak;rw[List.getElem?_append_left (by simp;omega),List.getElem?_take,if_pos (by omega),h]
theorem znq (k:ByteArray){ss:List ByteArray}{j:Nat}{s:ByteArray}(h:ss[j]? =some s):((zak k ss (j+1)).set (j+1) s).set j k=zak k ss j:=by
 have hlt:=(List.getElem?_eq_some_iff.1 h).1
 apply List.ext_getElem?
 intro i
 have hl:(zak k ss (j+1)).length=ss.length+1:=zad _ _ _
 rw[List.getElem?_set,List.getElem?_set]
 simp only [List.length_set,hl]
 by_cases h1:j=i
 ·subst h1;rw[if_pos rfl,if_pos (by omega),zif k (by omega)]
 ·rw[if_neg h1]
  by_cases h2:j+1=i
  ·subst h2
   rw[if_pos rfl,if_pos (by omega)]
   unfold zak
   rw[List.getElem?_append_right (by simp;omega)]
   simp only [List.length_take,Nat.min_eq_left (show j≤ss.length by omega),show j+1 - j=1 by omega,List.getElem?_cons_succ,List.getElem?_drop,Nat.add_zero]
   exact h.symm
  ·rw[if_neg h2]
   unfold zak
   rcases Nat.lt_or_ge i j with hi|hi
   ·rw[List.getElem?_append_left (by simp;omega),List.getElem?_append_left (by simp;omega),List.getElem?_take,List.getElem?_take,if_pos (by omega),if_pos hi]
   ·rw[List.getElem?_append_right (by simp;omega),List.getElem?_append_right (by simp;omega)]
    simp only [List.length_take,Nat.min_eq_left (show j≤ss.length by omega),Nat.min_eq_left (show j+1≤ss.length by omega)]
    obtain ⟨p,rfl⟩:∃p,i=j+2+p:=⟨i - (j+2),by omega⟩
    rw[show j+2+p - (j+1)=p+1 by omega,show j+2+p - j=p+2 by omega]
    simp only [List.getElem?_cons_succ,List.getElem?_drop]
    congr 1;omega
theorem zcR {k:ByteArray}{ss:List ByteArray}{j:Nat}(hs:ss.Pairwise fun a b=>blt a b=true)(h1:∀q∈ss.take j,blt q k=true)(h2:∀q∈ss.drop j,blt k q=true):(zak k ss j).Pairwise fun a b=>blt a b=true:=by
 unfold zak
 rw[List.pairwise_append]
 refine ⟨hs.sublist (List.take_sublist _ _),List.pairwise_cons.2 ⟨h2,hs.sublist (List.drop_sublist _ _)⟩,fun a ha b hb=>?_⟩
 rcases List.mem_cons.1 hb with rfl|hb
 ·exact h1 a ha
 ·exact Zv (h1 a ha) (h2 b hb)
theorem zgv:∀{a b:List ByteArray},a.Pairwise (fun a b=>blt a b=true)→b.Pairwise (fun a b=>blt a b=true)→(∀q,q∈a↔q∈b)→a=b
 | [],[],_,_,_=>rfl
 | [],y::b,_,_,h=>by have:=(h y).2 (List.mem_cons_self ..);cases this
 |x::a,[],_,_,h=>by have:=(h x).1 (List.mem_cons_self ..);cases this
 |x::a,y::b,ha,hb,h=>by
  rw[List.pairwise_cons] at ha hb
  have hxy:x=y:=by
   rcases List.mem_cons.1 ((h x).1 (List.mem_cons_self ..)) with e|hx
   ·exact e
   ·rcases List.mem_cons.1 ((h y).2 (List.mem_cons_self ..)) with e|hy
    ·exact e.symm
    ·have h1:=hb.1 x hx
     have h2:=ha.1 y hy
     rw[zjI h1] at h2;cases h2
  subst hxy
  rw[zgv ha.2 hb.2 fun q=>?_]
  constructor
  ·intro hq
   rcases List.mem_cons.1 ((h q).1 (List.mem_cons_of_mem _ hq)) with rfl|h'
   ·have:=ha.1 q hq;rw[zP] at this;cases this
   ·exact h'
  ·intro hq
   rcases List.mem_cons.1 ((h q).2 (List.mem_cons_of_mem _ hq)) with rfl|h'
   ·have:=hb.1 q hq;rw[zP] at this;cases this
   ·exact h'
end Go.Smd
end
