/- Part 32 of the proof: Meth Pa Pb Jj Ez Ga. -/
import Derived.Test.YtdgnolbdcmgfoaaGreatQO01
import Derived.Test.YtdgnolbdcmgfoaaGreatQO24
import Derived.Test.YtdgnolbdcmgfoaaGreatQO31
import Derived.Test.YtdgnolbdcmgfoaaGreatQO21
import Derived.Laws.Externs
import Derived.Test.YtdgnolbdcmgfoaaGreatQO30
import Derived.Test.YtdgnolbdcmgfoaaGreatQO27
import Derived.Test.YtdgnolbdcmgfoaaGreatQO26
set_option linter.unusedVariables false
set_option linter.unusedSimpArgs false
set_option maxRecDepth 100000
set_option maxHeartbeats 8000000
section
namespace Go.Smd
open Go.RowKit Go.Proofs Go.Proofs.Tryz
theorem zlr (ts:Array TypeId)(t:TypeId)(a:Addr)(s n:String):Builtin.ssaWrapNilChk_ ts t #[.pointer (some a),strVal s,strVal n]=(pure (.pointer (some a)):Sem Value):=rfl
theorem zQ {P:Program}{T E:TypeId}{f:Nat}{name:String}(hm:(((P.info? T).bind fun i=>i.methods.find? (·.name==name)).map fun m=>(m.path.toList,m.func))=some ([],some (f,false)))
  (hu:P.underlying T=some (.pointer E)) (n:Nat) {a:Addr} {v:Value} {w:World} (hl:(loadVar E a).run P w= .ok v w):
  (method (n+1) T (.pointer (some a)) name).run P w= .ok (f,v) w:=by
 obtain ⟨m,hm,hmm⟩:=Option.map_eq_some_iff.1 hm
 obtain ⟨i,hi,hf⟩:=Option.bind_eq_some_iff.1 hm
 simp only [Prod.mk.injEq] at hmm
 unfold method
 simp [typeInfo,hi,hf,hmm.2,follow,receiverAt,run_underlying hu,Place.get,hl,zlr,asAddr,show m.path= #[] from by simpa using hmm.1]
theorem ZP {a:Nat}{x:Value}{w:World}(h:w.cell? ⟨a,0,none⟩=some x):(loadVar 321 ⟨a,0,none⟩).run prog w= .ok (.agg #[x]) w:=by
 have h1:(isAgg 321).run prog w= .ok true w:=by simp [isAgg,run_underlying underlying321]
 simp [loadVar,h1,loadCells,loadCellsFrom,h,Addr.add,go_sem]
@[go_sem] theorem zwL (n a:Nat){x:Value}{w:World}(h:w.cell? ⟨a,0,none⟩=some x):(method (n+1) 271 (.pointer (some ⟨a,0,none⟩)) "AsBool").run prog w= .ok (319,.agg #[x]) w:=zQ (by kernel_rfl) underlying271 n (ZP h)
@[go_sem] theorem zv8 (n a:Nat){x:Value}{w:World}(h:w.cell? ⟨a,0,none⟩=some x):(method (n+1) 271 (.pointer (some ⟨a,0,none⟩)) "AsFloat").run prog w= .ok (320,.agg #[x]) w:=zQ (by kernel_rfl) underlying271 n (ZP h)
@[go_sem] theorem zxF (n a:Nat){x:Value}{w:World}(h:w.cell? ⟨a,0,none⟩=some x):(method (n+1) 271 (.pointer (some ⟨a,0,none⟩)) "AsInt").run prog w= .ok (321,.agg #[x]) w:=zQ (by kernel_rfl) underlying271 n (ZP h)
@[go_sem] theorem zwM (n a:Nat){x:Value}{w:World}(h:w.cell? ⟨a,0,none⟩=some x):(method (n+1) 271 (.pointer (some ⟨a,0,none⟩)) "AsList").run prog w= .ok (322,.agg #[x]) w:=zQ (by kernel_rfl) underlying271 n (ZP h)
@[go_sem] theorem zsF (n a:Nat){x:Value}{w:World}(h:w.cell? ⟨a,0,none⟩=some x):(method (n+1) 271 (.pointer (some ⟨a,0,none⟩)) "AsListUsing").run prog w= .ok (323,.agg #[x]) w:=zQ (by kernel_rfl) underlying271 n (ZP h)
@[go_sem] theorem zxG (n a:Nat){x:Value}{w:World}(h:w.cell? ⟨a,0,none⟩=some x):(method (n+1) 271 (.pointer (some ⟨a,0,none⟩)) "AsMap").run prog w= .ok (324,.agg #[x]) w:=zQ (by kernel_rfl) underlying271 n (ZP h)
@[go_sem] theorem ztS (n a:Nat){x:Value}{w:World}(h:w.cell? ⟨a,0,none⟩=some x):(method (n+1) 271 (.pointer (some ⟨a,0,none⟩)) "AsMapUsing").run prog w= .ok (325,.agg #[x]) w:=zQ (by kernel_rfl) underlying271 n (ZP h)
@[go_sem] theorem zvu (n a:Nat){x:Value}{w:World}(h:w.cell? ⟨a,0,none⟩=some x):(method (n+1) 271 (.pointer (some ⟨a,0,none⟩)) "AsString").run prog w= .ok (326,.agg #[x]) w:=zQ (by kernel_rfl) underlying271 n (ZP h)
@[go_sem] theorem zwN (n a:Nat){x:Value}{w:World}(h:w.cell? ⟨a,0,none⟩=some x):(method (n+1) 271 (.pointer (some ⟨a,0,none⟩)) "IsBool").run prog w= .ok (327,.agg #[x]) w:=zQ (by kernel_rfl) underlying271 n (ZP h)
@[go_sem] theorem zv9 (n a:Nat){x:Value}{w:World}(h:w.cell? ⟨a,0,none⟩=some x):(method (n+1) 271 (.pointer (some ⟨a,0,none⟩)) "IsFloat").run prog w= .ok (328,.agg #[x]) w:=zQ (by kernel_rfl) underlying271 n (ZP h)
@[go_sem] theorem zxH (n a:Nat){x:Value}{w:World}(h:w.cell? ⟨a,0,none⟩=some x):(method (n+1) 271 (.pointer (some ⟨a,0,none⟩)) "IsInt").run prog w= .ok (329,.agg #[x]) w:=zQ (by kernel_rfl) underlying271 n (ZP h)
@[go_sem] theorem zwO (n a:Nat){x:Value}{w:World}(h:w.cell? ⟨a,0,none⟩=some x):(method (n+1) 271 (.pointer (some ⟨a,0,none⟩)) "IsList").run prog w= .ok (330,.agg #[x]) w:=zQ (by kernel_rfl) underlying271 n (ZP h)
@[go_sem] theorem zxI (n a:Nat){x:Value}{w:World}(h:w.cell? ⟨a,0,none⟩=some x):(method (n+1) 271 (.pointer (some ⟨a,0,none⟩)) "IsMap").run prog w= .ok (331,.agg #[x]) w:=zQ (by kernel_rfl) underlying271 n (ZP h)
@[go_sem] theorem zwP (n a:Nat){x:Value}{w:World}(h:w.cell? ⟨a,0,none⟩=some x):(method (n+1) 271 (.pointer (some ⟨a,0,none⟩)) "IsNull").run prog w= .ok (332,.agg #[x]) w:=zQ (by kernel_rfl) underlying271 n (ZP h)
@[go_sem] theorem zvv (n a:Nat){x:Value}{w:World}(h:w.cell? ⟨a,0,none⟩=some x):(method (n+1) 271 (.pointer (some ⟨a,0,none⟩)) "IsString").run prog w= .ok (333,.agg #[x]) w:=zQ (by kernel_rfl) underlying271 n (ZP h)
@[go_sem] theorem zr9 (n a:Nat){x:Value}{w:World}(h:w.cell? ⟨a,0,none⟩=some x):(method (n+1) 271 (.pointer (some ⟨a,0,none⟩)) "Unstructured").run prog w= .ok (334,.agg #[x]) w:=zQ (by kernel_rfl) underlying271 n (ZP h)
theorem zcu {P:Program}{T:TypeId}{i off:Nat}(h:(match P.underlying T with|some (.struct fs)=>(match fs[i]? with|some f=>(match P.underlying f.type with|some (.struct _)=>none|some (.array _ _)=>none|some _=>some f.offset|none=>none)|none=>none)|_=>none)=some off){cs:Array Value}{v:Value}(hv:cs[off]? =some v)(w:World):
  (Instr.field T (.agg cs) i).run P w= .ok v w:=by
 unfold Instr.field
 cases hu:P.underlying T with
 |none=>simp [hu] at h
 |some d=>
  cases d with
  |struct fs=>
   simp only [hu] at h
   cases hf:fs[i]? with
   |none=>simp [hf] at h
   |some f=>
    simp only [hf] at h
    cases hd:P.underlying f.type with
    |none=>simp [hd] at h
    |some d2=>
     have hag:(isAgg f.type).run P w= .ok false w∧f.offset=off:=by
      simp only [hd] at h
      unfold isAgg
      rw[Sem.run_bind,run_underlying hd w]
      cases d2<;>simp_all
     simp [Sem.run_bind,run_underlying hu,hf,part,asAgg,hag.1,hag.2,hv]
  |_=>simp [hu] at h
@[go_sem] theorem zsa (c0 c1 c2 c3 c4 c5:Value)(w:World):(Instr.field 27 (.agg #[c0,c1,c2,c3,c4,c5]) 0).run prog w= .ok c0 w:=zcu (off:=0) (by kernel_rfl) rfl w
@[go_sem] theorem zsb (c0 c1 c2 c3 c4 c5:Value)(w:World):(Instr.field 27 (.agg #[c0,c1,c2,c3,c4,c5]) 1).run prog w= .ok c1 w:=zcu (off:=1) (by kernel_rfl) rfl w
@[go_sem] theorem zsc (c0 c1 c2 c3 c4 c5:Value)(w:World):(Instr.field 27 (.agg #[c0,c1,c2,c3,c4,c5]) 2).run prog w= .ok c2 w:=zcu (off:=2) (by kernel_rfl) rfl w
@[go_sem] theorem zsd (c0 c1 c2 c3 c4 c5:Value)(w:World):(Instr.field 27 (.agg #[c0,c1,c2,c3,c4,c5]) 3).run prog w= .ok c3 w:=zcu (off:=3) (by kernel_rfl) rfl w
@[go_sem] theorem zse (c0 c1 c2 c3 c4 c5:Value)(w:World):(Instr.field 27 (.agg #[c0,c1,c2,c3,c4,c5]) 4).run prog w= .ok c4 w:=zcu (off:=4) (by kernel_rfl) rfl w
@[go_sem] theorem zsf (c0 c1 c2 c3 c4 c5:Value)(w:World):(Instr.field 27 (.agg #[c0,c1,c2,c3,c4,c5]) 5).run prog w= .ok c5 w:=zcu (off:=5) (by kernel_rfl) rfl w
def zGV:GV:=.mk 0 0 0 ⟨#[]⟩ [] []
def Zm:LE→EV
 | .name s=>⟨0,s,[],[],zGV,0⟩
 | .key l=>⟨1,⟨#[]⟩,l.map (·.1),l.map fun p=>zM p.2,zGV,0⟩
 | .val t=>⟨2,⟨#[]⟩,[],[],zM t,0⟩
 | .idx n=>⟨3,⟨#[]⟩,[],[],zGV,n⟩
def zek:LE→Prop
 | .key l=>l.length*88≤140737488351232
 |_=>True
theorem zhp (t:Tree)(ht:z8 t){a b:Int}{c:Nat}{d:ByteArray}{e:List ByteArray}{f:List GV}(h:zM t= .mk a b c d e f):ACalls prog 73 [.c (.d (dV t))] (fun r=>r=gvX a b c d e f):=by
 have:=zeY t ht
 rw[h,zdM] at this;exact this
theorem znV (p:LE)(hf:zas p)(hs:zek p):ACalls prog 82 [leA p] (fun r=>r=evA (Zm p)):=by
 cases p with
 |name s=>
  simp only [Zm,zGV]
  rw[zeO]
  refine zg [(9,([],[(0,[]),(1,[]),(2,[]),(3,[]),(4,[]),(5,[]),(6,[]),(7,[]),(8,[])]))] func82 (by kernel_rfl) rfl ntmps82 results82 (Nat.le_of_ble_eq_true (by kernel_rfl)) ?_;intro hok w0 S0
  clear hok
  (repeat' (first|(with_reducible first|refine zl (fun _=>?_) (fun _=>?_)|refine zk (fun _=>?_) (fun _=>?_)|refine zm zd (by kernel_rfl) ?_|exact zc rfl)|(simp -dsimp)));(all_goals try with_reducible refine zc ?_)
 |idx n=>
  simp only [Zm,zGV]
  rw[zeO]
  refine zg [(9,([],[(0,[]),(1,[]),(2,[]),(3,[]),(4,[]),(5,[]),(6,[]),(7,[]),(8,[])]))] func82 (by kernel_rfl) rfl ntmps82 results82 (Nat.le_of_ble_eq_true (by kernel_rfl)) ?_;intro hok w0 S0
  clear hok
  (repeat' (first|(with_reducible first|refine zl (fun _=>?_) (fun _=>?_)|refine zk (fun _=>?_) (fun _=>?_)|refine zm zd (by kernel_rfl) ?_|exact zc rfl)|(simp -dsimp)));(all_goals try with_reducible refine zc ?_)
 |val t=>
  simp only [zas] at hf
  simp only [Zm]
  cases hg:zM t with
  |mk a b c d e f=>
   rw[zeO]
   refine zg [(9,([],[(0,[]),(1,[]),(2,[]),(3,[]),(4,[]),(5,[]),(6,[]),(7,[]),(8,[])]))] func82 (by kernel_rfl) rfl ntmps82 results82 (Nat.le_of_ble_eq_true (by kernel_rfl)) ?_;intro hok w0 S0
   clear hok
   (repeat' (first|(with_reducible first|refine zl (fun _=>?_) (fun _=>?_)|refine zk (fun _=>?_) (fun _=>?_)|refine zt (zhp t hf hg) (by first|rfl|(simp -dsimp;done)) ?_|(refine Zu (zhp t hf hg) rfl ?_ ?_ ?_;iterate 2 exact by first|rfl|(simp -dsimp;done))|refine zm zd (by kernel_rfl) ?_|exact zc rfl)|(simp -dsimp)));(all_goals try with_reducible refine zc ?_)
 |key l=>
  simp only [zas,zek] at hf hs
  simp only [Zm,zGV]
  rw[zeO]
  obtain ⟨KS,hKS⟩:∃KS,KS=l.map fun p=>[dS p.1]:=⟨_,rfl⟩
  obtain ⟨VS,hVS⟩:∃VS,VS=l.map fun p=>gvD (zM p.2):=⟨_,rfl⟩
  have e1:zav (l.map (·.1))= .sl 9 KS:=by simp only [hKS,zav,zbA,List.map_map];rfl
  have e2:zbI (l.map fun p=>zM p.2)= .sl 27 VS:=by simp only [hVS,zbI,List.map_map];rfl
  have k1:KS.length=l.length:=by simp [hKS]
  have v1:VS.length=l.length:=by simp [hVS]
  rw[evX,e1,e2]
  refine zg [(9,([],[(0,[]),(1,[]),(2,[]),(3,[]),(4,[]),(5,[]),(6,[]),(7,[]),(8,[])]))] func82 (by kernel_rfl) rfl ntmps82 results82 (Nat.le_of_ble_eq_true (by kernel_rfl)) ?_;intro hok w0 S0
  clear hok
  have b1:l.length≤9223372036854775807:=by omega
  (repeat' (first|(with_reducible first|refine zl (fun _=>?_) (fun _=>?_)|refine zk (fun _=>?_) (fun _=>?_)|refine zm zd (by kernel_rfl) ?_|exact zc rfl)|(simp -dsimp [b1])));(all_goals try with_reducible refine zc ?_)
  refine zJ (fun i:Nat=>match i with
   |0=>⟨[(2,.c (.own 2 0)),(3,.c (.own 3 0)),(23,.c (.d (zfm l))),(24,aI l.length),(25,aI 0)],[(2,.cells [.d (dI 0),.d (dS ⟨#[]⟩),.d (.v (.slice none 0 0)),.d (.v (.slice none 0 0)),.d (dI 0),.d (dI 0),.d (dF 0),.d (dS ⟨#[]⟩),.d (.v (.slice none 0 0)),.d (.v (.slice none 0 0)),.d (dI 0)] 29),(3,.cells [.d (dI 1),.d (dS ⟨#[]⟩),.d (.v (.slice none 0 0)),.d (.v (.slice none 0 0)),.d (dI 0),.d (dI 0),.d (dF 0),.d (dS ⟨#[]⟩),.d (.v (.slice none 0 0)),.d (.v (.slice none 0 0)),.d (dI 0)] 29)]⟩
   |i+1=>⟨[(2,.c (.own 2 0)),(3,.c (.own 3 0)),(23,.c (.d (zfm l))),(24,aI l.length),(25,aI ((i+1:Nat):Int))],[(34,.arr (i+1) 9 (KS.take (i+1))),(42,.arr (i+1) 27 (VS.take (i+1))),(2,.cells [.d (dI 0),.d (dS ⟨#[]⟩),.d (.v (.slice none 0 0)),.d (.v (.slice none 0 0)),.d (dI 0),.d (dI 0),.d (dF 0),.d (dS ⟨#[]⟩),.d (.v (.slice none 0 0)),.d (.v (.slice none 0 0)),.d (dI 0)] 29),(3,.cells [.d (dI 1),.d (dS ⟨#[]⟩),.gs 34 (i+1),.gs 42 (i+1),.d (dI 0),.d (dI 0),.d (dF 0),.d (dS ⟨#[]⟩),.d (.v (.slice none 0 0)),.d (.v (.slice none 0 0)),.d (dI 0)] 29)]⟩)
   (fun i=>i≤l.length) (fun i=>l.length - i) 0 ?_ (Nat.zero_le _) ?_
  ·exact Weak.same (by simp -dsimp) (by simp -dsimp) (by first|rfl|(simp [zj,Av.ids,Ow.ids,Cl.ids,Go.Smd.keys];done))
  ·rintro i hi K hK
   have kT:∀(j:Nat) (h:j<l.length),KS.take (j+1)=KS.take j++ [[dS l[j].1]]:=fun j h=>by
    rw[List.take_succ_eq_append_getElem (by omega)];simp [hKS]
   have vT:∀(j:Nat) (h:j<l.length),VS.take (j+1)=VS.take j++ [gvD (zM l[j].2)]:=fun j h=>by
    rw[List.take_succ_eq_append_getElem (by omega)];simp [hVS]
   cases i with
   |zero=>
    dsimp only
    by_cases hlt:0<l.length
    ·have IH0:=zeY l[0].2 (hf _ (List.getElem_mem hlt))
     (repeat' (first|(with_reducible first|refine zl (fun _=>?_) (fun _=>?_)|refine zk (fun _=>?_) (fun _=>?_)|refine zt (IH0) (by first|rfl|(simp -dsimp [hlt,zf,zaN];done)) ?_|(refine Zu (IH0) rfl ?_ ?_ ?_;iterate 2 exact by first|rfl|(simp -dsimp [hlt,zf,zaN];done))|refine zm zd (by kernel_rfl) ?_|exact zc rfl)|(simp -dsimp [hlt,zf,zaN])));(all_goals try with_reducible refine zc ?_)
     refine hK _ 1 ?_ (by omega) (by omega)
     dsimp only
     rw[kT 0 hlt,vT 0 hlt]
     exact Weak.same (by simp -dsimp [w1]) (by simp -dsimp [w1]) (by first|rfl|(simp [zj,Av.ids,Ow.ids,Cl.ids,Go.Smd.keys];done))
    ·have e:l= []:=List.eq_nil_of_length_eq_zero (by omega)
     subst e
     simp only [List.map_nil] at hKS hVS
     subst hKS;subst hVS
     (repeat' (first|(with_reducible first|refine zl (fun _=>?_) (fun _=>?_)|refine zk (fun _=>?_) (fun _=>?_)|refine zm zd (by kernel_rfl) ?_|exact zc rfl)|(simp -dsimp)));(all_goals try with_reducible refine zc ?_)
   |succ i=>
    dsimp only
    have r1:(KS.take (i+1)).length=i+1:=by simp;omega
    have r2:(VS.take (i+1)).length=i+1:=by simp;omega
    obtain ⟨R1,hR1⟩:∃R,R=KS.take (i+1):=⟨_,rfl⟩
    obtain ⟨R2,hR2⟩:∃R,R=VS.take (i+1):=⟨_,rfl⟩
    rw[←hR1] at r1 ⊢
    rw[←hR2] at r2 ⊢
    by_cases hlt:i+1<l.length
    ·have IH0:=zeY l[i+1].2 (hf _ (List.getElem_mem hlt))
     have hw:IntKind.wrap .i64 (((i+1:Nat):Int)+1)=((i+1+1:Nat):Int):=by rw[zy]<;>omega
     have hw2:IntKind.wrap .i64 ((i:Int)+1+1)=((i+1+1:Nat):Int):=by rw[zy]<;>omega
     have hb:(i+1+1)*88≤140737488351232:=by omega
     have hb2:(i+1+1)*16≤140737488351232:=by omega
     have h1:(i:Int)+1<l.length:=by omega
     have h2:(0:Int)≤(i:Int)+1:=by omega
     have h3:((i:Int)+1).toNat=i+1:=by omega
     (repeat' (first|(with_reducible first|refine zl (fun _=>?_) (fun _=>?_)|refine zk (fun _=>?_) (fun _=>?_)|refine zt (IH0) (by first|rfl|(simp -dsimp [hlt,r1,r2,hw,hw2,hb,hb2,h1,h2,h3,zf,zaN];done)) ?_|(refine Zu (IH0) rfl ?_ ?_ ?_;iterate 2 exact by first|rfl|(simp -dsimp [hlt,r1,r2,hw,hw2,hb,hb2,h1,h2,h3,zf,zaN];done))|refine zm zd (by kernel_rfl) ?_|exact zc rfl)|(simp -dsimp [hlt,r1,r2,hw,hw2,hb,hb2,h1,h2,h3,zf,zaN])));(all_goals try with_reducible refine zc ?_)
     refine hK _ (i+1+1) ?_ (by omega) (by omega)
     dsimp only
     rw[kT (i+1) hlt,vT (i+1) hlt,←hR1,←hR2]
     exact Weak.same (by simp -dsimp) (by simp -dsimp) (by first|rfl|(simp [zj,Av.ids,Ow.ids,Cl.ids,Go.Smd.keys];done))
    ·have h1:¬(i:Int)+1<l.length:=by omega
     have e3:R1=KS:=by rw[hR1,List.take_of_length_le (by omega)]
     have e4:R2=VS:=by rw[hR2,List.take_of_length_le (by omega)]
     (repeat' (first|(with_reducible first|refine zl (fun _=>?_) (fun _=>?_)|refine zk (fun _=>?_) (fun _=>?_)|refine zm zd (by kernel_rfl) ?_|exact zc rfl)|(simp -dsimp [h1])));(all_goals try with_reducible refine zc ?_)
     rw[e3,e4]
     rfl
theorem zsg {e:EV}(hl:e.l.length*88≤140737488351232):zek (z9 e):=by
 unfold z9
 split
 ·simp only [zek,zb0];simp;omega
 ·split
  ·trivial
  ·split<;>trivial
def CE (e:EV):EV:=
 if e.k=1 then ⟨1,⟨#[]⟩,e.keys.take (min e.keys.length e.l.length),(e.l.take (min e.keys.length e.l.length)).map zz,zGV,0⟩
 else if e.k=2 then ⟨2,⟨#[]⟩,[],[],zz e.v,0⟩
 else if e.k=3 then ⟨3,⟨#[]⟩,[],[],zGV,e.n⟩
 else ⟨0,e.s,[],[],zGV,0⟩
theorem zmJ (e:EV)(hk:e.keys.length*16≤140737488351232)(hl:e.l.length*88≤140737488351232):ACalls prog 63 [evA e] (fun r=>r=evA (CE e)):=by
 obtain ⟨k,s,keys,l,⟨a,b,c,d,e,f⟩,n⟩:=e
 dsimp only at hk hl
 obtain ⟨m,hm⟩:∃m:Nat,m=min keys.length l.length:=⟨_,rfl⟩
 obtain ⟨a1,a2,a3,a4,a5,a6,hcl⟩:∃a1 a2 a3 a4 a5 a6,zz (.mk a b c d e f)= .mk a1 a2 a3 a4 a5 a6:=by cases zz (.mk a b c d e f);exact ⟨_,_,_,_,_,_,rfl⟩
 have hc:=zgj (.mk a b c d e f)
 rw[hcl,zdM,zdM] at hc
 have hCE:evA (CE ⟨k,s,keys,l,.mk a b c d e f,n⟩)=if k=1 then evX 1 ⟨#[]⟩ (keys.take m) ((l.take m).map zz) 0 0 0 ⟨#[]⟩ [] [] 0 else if k=2 then evX 2 ⟨#[]⟩ [] [] a1 a2 a3 a4 a5 a6 0 else if k=3 then evX 3 ⟨#[]⟩ [] [] 0 0 0 ⟨#[]⟩ [] [] n else evX 0 s [] [] 0 0 0 ⟨#[]⟩ [] [] 0:=by
  unfold CE
  simp only [zGV,hcl,←hm]
  repeat' split
  all_goals rw[zeO]
 rw[hCE,zeO]
 refine zg [(4,([10],[(1,[]),(2,[]),(3,[]),(4,[]),(6,[]),(7,[]),(8,[]),(9,[]),(0,[]),(5,[]),(10,[]),(11,[]),(12,[])]))] func63 (by kernel_rfl) rfl ntmps63 results63 (Nat.le_of_ble_eq_true (by kernel_rfl)) ?_;intro hok w0 S0
 clear hok
 have b1:keys.length≤9223372036854775807:=by omega
 have b2:l.length≤9223372036854775807:=by omega
 have hmin:min (keys.length:Int) (l.length:Int)=(m:Int):=by omega
 have hm1:m≤keys.length:=by omega
 have hm2:m≤l.length:=by omega
 have hp:=zhg (l.take m) (by simp;omega)
 rw[show zbI (l.take m)= .sl 27 ((l.map gvD).take m) by rw[zbI,List.map_take]] at hp
 have hr:m*16≤140737488351232:=by omega
 (repeat' (first|(with_reducible first|refine zl (fun _=>?_) (fun _=>?_)|refine zk (fun _=>?_) (fun _=>?_)|refine zt (hc) (by first|rfl|(simp -dsimp [b1,b2,zf,hmin,hm1,hm2,hr];done)) ?_|(refine Zu (hc) rfl ?_ ?_ ?_;iterate 2 exact by first|rfl|(simp -dsimp [b1,b2,zf,hmin,hm1,hm2,hr];done))|refine zt (hp) (by first|rfl|(simp -dsimp [b1,b2,zf,hmin,hm1,hm2,hr];done)) ?_|(refine Zu (hp) rfl ?_ ?_ ?_;iterate 2 exact by first|rfl|(simp -dsimp [b1,b2,zf,hmin,hm1,hm2,hr];done))|refine zm zd (by kernel_rfl) ?_|exact zc rfl)|(simp -dsimp [b1,b2,zf,hmin,hm1,hm2,hr])));(all_goals try with_reducible refine zc ?_)
 ·rename_i h
  rw[if_pos h]
  simp only [evX,zav,zbI,zbA,List.map_take];rfl
 ·rename_i h1 h2
  rw[if_neg h1,if_pos h2]
  try rfl
 ·rename_i h1 h2 h3
  rw[if_neg h1,if_neg h2,if_pos h3]
  try rfl
 ·rename_i h1 h2 h3
  rw[if_neg h1,if_neg h2,if_neg h3]
  try rfl
theorem zoL {α β:Type}:∀(a:List α) (b:List β),(a.zip b).map (·.1)=a.take (min a.length b.length)
 | [],_=>by simp
 |_::_,[]=>by simp
 |x::a,y::b=>by
  simp only [List.zip_cons_cons,List.map_cons,zoL a b,List.length_cons,←Nat.succ_eq_add_one,Nat.succ_min_succ,List.take_succ_cons]
theorem zoM {α β:Type}:∀(a:List α) (b:List β),(a.zip b).map (·.2)=b.take (min a.length b.length)
 | [],_=>by simp
 |_::_,[]=>by simp
 |x::a,y::b=>by
  simp only [List.zip_cons_cons,List.map_cons,zoM a b,List.length_cons,←Nat.succ_eq_add_one,Nat.succ_min_succ,List.take_succ_cons]
theorem ztT (e:EV):CE (Zm (z9 e))=CE e:=by
 have hcl:∀x:GV,zz (zM (zp x))=zz x:=fun x=>by rw[zb4,zcr]
 unfold z9
 split
 ·next h1=>
  unfold CE
  simp only [Zm,h1,if_true]
  have hz:(zb0 e.keys e.l).length=min e.keys.length e.l.length:=by simp [zb0]
  rw[List.length_map,List.length_map,Nat.min_self,hz,List.take_of_length_le (by simp [zb0]),List.take_of_length_le (by simp [zb0])]
  congr 1
  ·rw[zb0,zoL];simp
  ·rw[zb0,List.zip_map_right,List.map_map,List.map_map]
   have:((zz∘fun p:ByteArray×Tree=>zM p.2)∘Prod.map id zp)=zz∘(Prod.snd:ByteArray×GV→GV):=funext fun p=>hcl p.2
   rw[this,←List.map_map]
   have e2:=zoM e.keys e.l
   exact congrArg (List.map zz) e2
 ·split
  ·next h1 h2=>unfold CE;simp [Zm,h2,hcl]
  ·split
   ·next h1 h2 h3=>unfold CE;simp [Zm,h3]
   ·next h1 h2 h3=>unfold CE;simp [Zm,h1,h2,h3]
def ZL:List EV→List EV→Int
 | [],[]=>0
 | [],_::_=> -1
 |_::_,[]=>1
 |a::u,b::z=>if zG a b=0 then ZL u z else if u.isEmpty=z.isEmpty then zG a b else if u.isEmpty=true then -1 else 1
def zls:List EV→List (Int×EV)
 | []=>[]
 |a::u=>((if u.isEmpty=true then 0 else 1),a)::zls u
def zvw (x y:Int×EV):Int:=if zT x.1 y.1≠0 then zT x.1 y.1 else zG x.2 y.2
theorem zmK:∀p q:List EV,ZL p q=zF zvw (zls p) (zls q)
 | [],[]=>rfl
 | [],_::_=>rfl
 |_::_,[]=>rfl
 |a::u,b::z=>by
  simp only [ZL,zls,zF,zvw,zmK u z]
  by_cases h:zG a b=0
  ·rw[if_pos h]
   cases u<;>cases z<;>simp [h,zT,zls,zF]
  ·rw[if_neg h]
   cases u<;>cases z<;>simp [h,zT]
abbrev zgY (p:List EV):Prop:=∀e∈p,OE e
theorem zmL:∀{p:List EV} {x:Int×EV},x∈zls p→x.2∈p
 | [],_,h=>by simp [zls] at h
 |a::u,x,h=>by
  simp only [zls] at h
  rcases List.mem_cons.1 h with rfl|h
  ·simp
  ·exact List.mem_cons_of_mem _ (zmL h)
theorem zbR:Ord3 zgY ZL:=by
 have h1:Ord3 (fun x:Int×EV=>OE x.2) (fun x y=>zT x.1 y.1):=(zch.comap (fun x:Int×EV=>x.1)).mono fun _ _=>trivial
 have h2:Ord3 (fun x:Int×EV=>OE x.2) (fun x y=>zG x.2 y.2):=zB.comap (fun x:Int×EV=>x.2)
 have h3:Ord3 (fun x:Int×EV=>OE x.2) zvw:=h1.lex (fun x y hx hy _=>h2.anti x y hx hy) fun x y z hx hy hz _ _=>h2.trans x y z hx hy hz
 have h4:=(h3.row.comap zls).mono (O':=zgY) fun p hp x hx=>hp _ (zmL hx)
 exact h4.congr fun p q _ _=>zmK p q
theorem zmM (a b:EV):zG (CE a) b=zG a b:=by
 obtain ⟨k,s,keys,l,v,n⟩:=a
 have hz:∀{ks:List ByteArray} {l:List GV},(ks.take (min ks.length l.length)).zip ((l.take (min ks.length l.length)).map zz)=(ks.zip l).map fun p=>(p.1,zz p.2):=fun {ks}=>by
  induction ks with
  |nil=>intro l;simp
  |cons k ks ih=>
   intro l
   cases l with
   |nil=>simp
   |cons x l=>
    have hm:min (k::ks).length (x::l).length=min ks.length l.length+1:=by simp only [List.length_cons];omega
    rw[hm];simp only [List.take_succ_cons,List.map_cons,List.zip_cons_cons,ih]
 have hr:∀A B:List (ByteArray×GV),zF zcR (A.map fun p=>(p.1,zz p.2)) B=zF zcR A B:=fun A=>by
  induction A with
  |nil=>intro B;simp
  |cons x A ih=>
   intro B
   cases B with
   |nil=>simp [zF]
   |cons y B=>simp [zF,zcR,zcr,ih]
 simp only [CE]
 by_cases h1:k=1
 ·subst h1
  simp only [if_true,zG,rkE,hz,hr]
  simp
 ·by_cases h2:k=2
  ·subst h2
   simp [zG,rkE,zcr]
  ·by_cases h3:k=3
   ·subst h3
    simp [zG,rkE]
   ·simp [zG,rkE,h1,h2,h3]
abbrev cP (p:List EV):List EV:=p.map CE
theorem zp1 (e:EV)(h:EVs e):(CE e).keys.length*16≤140737488351232∧(CE e).l.length*88≤140737488351232:=by
 have h1:=h.hk
 have h2:=h.hl
 unfold CE
 split
 ·simp;omega
 ·split
  ·simp
  ·split<;>simp
theorem zwQ (e:EV)(h1:zW (CE e).v=true)(h2:(CE e).l.all zW=true):OE e:=by
 refine ⟨fun hk p hp=>?_,fun hk=>?_⟩
 ·have k1:e.k=1:=by unfold rkE at hk;split at hk<;>omega
  unfold CE at h2
  rw[if_pos k1] at h2
  obtain ⟨i,hi,rfl⟩:=List.getElem_of_mem hp
  rw[List.length_zip] at hi
  rw[List.getElem_zip]
  refine List.all_eq_true.1 h2 _ (List.mem_map.2 ⟨_,?_,rfl⟩)
  exact List.mem_take_iff_getElem.2 ⟨i,by omega,rfl⟩
 ·have k1:e.k=2:=by unfold rkE at hk;split at hk<;>omega
  unfold CE at h1
  rw[if_neg (by omega),if_pos k1] at h1
  exact h1
theorem zju (e:EV)(h:EVs e):ACalls prog 15 [evA e] (fun r=>∃b,r=aV (.bool b)∧(b=true→OE e)):=by
 have hc:=zmJ e h.hk h.hl
 obtain ⟨hk2,hl2⟩:=zp1 e h
 have hO:=zwQ e
 obtain ⟨k2,s2,ks2,l2,a2,b2,c2,d2,e2,f2,n2,hC⟩:∃k s keys l a b c d e' f n,CE e=⟨k,s,keys,l,.mk a b c d e' f,n⟩:=by
  obtain ⟨k,s,keys,l,⟨a,b,c,d,e',f⟩,n⟩:=CE e
  exact ⟨_,_,_,_,_,_,_,_,_,_,_,rfl⟩
 rw[hC] at hk2 hl2 hO hc
 dsimp only at hk2 hl2 hO
 have ho:=zkb (.mk a2 b2 c2 d2 e2 f2)
 have hv:=zhw l2 hl2
 have hs:=zmu k2 s2 ks2 l2 a2 b2 c2 d2 e2 f2 n2 hk2 hl2
 generalize zW (.mk a2 b2 c2 d2 e2 f2)=o1 at ho hO
 generalize l2.all zW=o2 at hv hO
 obtain ⟨k,s,keys,l,⟨a,b,c,d,p,f⟩,n⟩:=e
 rw[zdM] at ho
 rw[zeO] at hc ⊢
 rw[zeO] at hc
 cases o1<;>cases o2
 all_goals
  refine zg [] func15 (by kernel_rfl) rfl ntmps15 results15 (Nat.le_of_ble_eq_true (by kernel_rfl)) ?_;intro hok w0 S0
  clear hok
  (repeat' (first|(with_reducible first|refine zl (fun _=>?_) (fun _=>?_)|refine zk (fun _=>?_) (fun _=>?_)|refine zt (hc) (by first|rfl|(simp -dsimp;done)) ?_|refine zt (ho) (by first|rfl|(simp -dsimp;done)) ?_|refine zt (hv) (by first|rfl|(simp -dsimp;done)) ?_)|((with_reducible refine zlc (hs) (by first|rfl|(simp -dsimp;done)) ?_);rintro _ ⟨x,rfl⟩ _)|((with_reducible refine zld (hs) rfl ?_ ?_ ?_;iterate 2 exact by first|rfl|(simp -dsimp;done));rintro _ ⟨x,rfl⟩ _)|(with_reducible first|refine zm zd (by kernel_rfl) ?_|exact zc rfl)|(simp -dsimp)));(all_goals try with_reducible refine zc ?_)
 all_goals exact zd8 ⟨_,rfl,fun h=>by first|exact hO rfl rfl|cases h⟩
theorem ziZ (L:List (List EV))(hl:L.length≤4000000000000)(hL:∀p∈L,p.length*168≤140737488351232∧∀e∈p,EVs e):ACalls prog 14 [.c (.d (ZY L))] (fun r=>∃b,r=aV (.bool b)∧(b=true→∀p∈L,∀e∈p,OE e)):=by
 refine zg [] func14 (by kernel_rfl) rfl ntmps14 results14 (Nat.le_of_ble_eq_true (by kernel_rfl)) ?_;intro hok w0 S0
 clear hok
 have b1:L.length≤9223372036854775807:=by omega
 (repeat' (first|(with_reducible first|refine zl (fun _=>?_) (fun _=>?_)|refine zk (fun _=>?_) (fun _=>?_)|refine zm zd (by kernel_rfl) ?_|exact zc rfl)|(simp -dsimp [b1])));(all_goals try with_reducible refine zc ?_)
 refine zJ (fun i:Nat=>⟨[(7,.c (.d (ZY L))),(8,aI L.length),(9,aI i)],[]⟩) (fun i=>i≤L.length∧∀p∈L.take i,∀e∈p,OE e) (fun i=>L.length - i) 0 ?_ ⟨Nat.zero_le _,by simp⟩ ?_
 ·exact Weak.same (by simp -dsimp) (by simp -dsimp) (by first|rfl|(simp [zj,Av.ids,Ow.ids,Cl.ids,Go.Smd.keys];done))
 ·rintro i ⟨hi,hdone⟩ K hK
  by_cases hlt:i<L.length
  ·have hw:IntKind.wrap .i64 ((i:Int)+1)=((i+1:Nat):Int):=by rw[zy]<;>omega
   obtain ⟨hp1,hp2⟩:=hL _ (List.getElem_mem hlt)
   have b2:L[i].length≤9223372036854775807:=by omega
   (repeat' (first|(with_reducible first|refine zl (fun _=>?_) (fun _=>?_)|refine zk (fun _=>?_) (fun _=>?_)|refine zm zd (by kernel_rfl) ?_|exact zc rfl)|(simp -dsimp [b1,hlt,b2])));(all_goals try with_reducible refine zc ?_)
   refine zJ (fun j:Nat=>⟨[(7,.c (.d (ZY L))),(8,aI L.length),(9,aI i),(13,.c (.d (ZT L[i]))),(14,aI L[i].length),(15,aI j)],[]⟩) (fun j=>j≤L[i].length∧∀e∈L[i].take j,OE e) (fun j=>L[i].length - j) 0 ?_ ⟨Nat.zero_le _,by simp⟩ ?_
   ·exact Weak.same (by simp -dsimp) (by simp -dsimp) (by first|rfl|(simp [zj,Av.ids,Ow.ids,Cl.ids,Go.Smd.keys];done))
   ·rintro j ⟨hj,hd2⟩ K2 hK2
    by_cases hlt2:j<L[i].length
    ·have hw2:IntKind.wrap .i64 ((j:Int)+1)=((j+1:Nat):Int):=by rw[zy]<;>omega
     have hc:=zju _ (hp2 _ (List.getElem_mem hlt2))
     (repeat' (first|(with_reducible first|refine zl (fun _=>?_) (fun _=>?_)|refine zk (fun _=>?_) (fun _=>?_))|((with_reducible refine zlc (hc) (by first|rfl|(simp -dsimp [b2,hlt2,hw2];done)) ?_);rintro _ ⟨x,rfl,hx⟩ _)|((with_reducible refine zld (hc) rfl ?_ ?_ ?_;iterate 2 exact by first|rfl|(simp -dsimp [b2,hlt2,hw2];done));rintro _ ⟨x,rfl,hx⟩ _)|(with_reducible first|refine zm zd (by kernel_rfl) ?_|exact zc rfl)|(simp -dsimp [b2,hlt2,hw2])));(all_goals try with_reducible refine zc ?_)
     ·exact zd8 ⟨_,rfl,fun h=>by cases h⟩
     ·rename_i h0
      refine hK2 _ (j+1) ?_ ⟨by omega,fun e he=>?_⟩ (by omega)
      ·exact Weak.same (by simp -dsimp) (by simp -dsimp) (by first|rfl|(simp [zj,Av.ids,Ow.ids,Cl.ids,Go.Smd.keys];done))
      ·rw[List.take_succ_eq_append_getElem hlt2] at he
       rcases List.mem_append.1 he with he|he
       ·exact hd2 e he
       ·simp at he;subst he;exact hx (by simpa using h0)
    ·(repeat' (first|(with_reducible first|refine zl (fun _=>?_) (fun _=>?_)|refine zk (fun _=>?_) (fun _=>?_)|refine zm zd (by kernel_rfl) ?_|exact zc rfl)|(simp -dsimp [hlt2,hw])));(all_goals try with_reducible refine zc ?_)
     refine hK _ (i+1) ?_ ⟨by omega,fun p hp=>?_⟩ (by omega)
     ·exact Weak.same (by simp -dsimp) (by simp -dsimp) (by first|rfl|(simp [zj,Av.ids,Ow.ids,Cl.ids,Go.Smd.keys];done))
     ·rw[List.take_succ_eq_append_getElem hlt] at hp
      rcases List.mem_append.1 hp with hp|hp
      ·exact hdone p hp
      ·simp at hp;subst hp
       rw[List.take_of_length_le (by omega)] at hd2
       exact hd2
  ·(repeat' (first|(with_reducible first|refine zl (fun _=>?_) (fun _=>?_)|refine zk (fun _=>?_) (fun _=>?_)|refine zm zd (by kernel_rfl) ?_|exact zc rfl)|(simp -dsimp [hlt])));(all_goals try with_reducible refine zc ?_)
   rw[List.take_of_length_le (by omega)] at hdone
   exact zd8 ⟨_,rfl,fun _=>hdone⟩
theorem zsh {e:EV}(he:OE e){S:List EV}(hS:∀x∈S,OE x)(hs:zde S):zgT e S↔∃x∈S,zG x e=0:=by
 constructor
 ·rintro ⟨x,hx,h⟩
  exact ⟨x,List.mem_of_getElem? hx,h⟩
 ·rintro ⟨x,hx,h⟩
  obtain ⟨j,hj,rfl⟩:=List.getElem_of_mem hx
  have h1:lbE e S≤j:=Nat.le_of_not_lt fun hlt=>by have:=znL e S j hj hlt;omega
  rcases Nat.lt_or_eq_of_le h1 with h2|h2
  ·have hb:lbE e S<S.length:=by omega
   have h3:=znM e he S hS hs (lbE e S) hb (Nat.le_refl _)
   have h4:=List.pairwise_iff_getElem.1 hs (lbE e S) j hb hj h2
   have h5:=zB.lt_le (hS _ (List.getElem_mem hb)) (hS _ (List.getElem_mem hj)) he h4 (by omega)
   omega
  ·exact ⟨S[j],by rw[h2];simp [hj],h⟩
theorem zhq {e y:EV}:∀{S:List EV},y∈S→y∈zci e S
 | [],h=>by cases h
 |x::r,h=>by
  simp only [zci]
  split
  ·rcases List.mem_cons.1 h with h|h
   ·simp [h]
   ·exact .tail _ (zhq h)
  ·split
   ·exact h
   ·exact .tail _ h
theorem zmN {e:EV}(he:OE e):∀S:List EV,∃x∈zci e S,zG x e=0
 | []=>⟨e,by simp [zci],zB.refl he⟩
 |x::r=>by
  simp only [zci]
  split
  ·obtain ⟨y,hy,h⟩:=zmN he r
   exact ⟨y,.tail _ hy,h⟩
  ·split
   ·next h=>exact ⟨x,by simp,h⟩
   ·exact ⟨e,by simp,zB.refl he⟩
end Go.Smd
end
