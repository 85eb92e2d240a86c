/- Part 32. -/
import Derived.Test.YtdgnolbdcmgfoaaGreatQD01
import Derived.Test.YtdgnolbdcmgfoaaGreatQD24
import Derived.Test.YtdgnolbdcmgfoaaGreatQD31
import Derived.Test.YtdgnolbdcmgfoaaGreatQD20
import Derived.Laws.Externs
import Derived.Test.YtdgnolbdcmgfoaaGreatQD30
set_option linter.unusedVariables false
set_option linter.unusedSimpArgs false
set_option maxRecDepth 100000
set_option maxHeartbeats 8000000
section
namespace Go.Smd
open Go.RowKit Go.Proofs Go.Proofs.Tryz
theorem zlh (ts:Array TypeId)(t:TypeId)(a:Addr)(s n:String):Builtin.ssaWrapNilChk_ ts t #[.pointer (some a),strVal s,strVal n]=(pure (.pointer (some a)):Sem Value):=rfl
theorem zM {P:Program}{T E:TypeId}{f:Nat}{name:String}(hm:(((P.info? T).bind fun i=>i.methods.find? (·.name==name)).map fun m=>(m.path.toList,m.func))=some ([],some (f,false)))
  (hu:P.underlying T=some (.pointer E)) (n:Nat) {a:Addr} {v:Value} {w:World} (hl:(loadVar E a).run P w= .ok v w):
  (method (n+1) T (.pointer (some a)) name).run P w= .ok (f,v) w:=by
 obtain ⟨m,hm,hmm⟩:=Option.map_eq_some_iff.1 hm
 obtain ⟨i,hi,hf⟩:=Option.bind_eq_some_iff.1 hm
 simp only [Prod.mk.injEq] at hmm
 unfold method
 simp [typeInfo,hi,hf,hmm.2,follow,receiverAt,run_underlying hu,Place.get,hl,zlh,asAddr,show m.path= #[] from by simpa using hmm.1]
theorem ZD {a:Nat}{x:Value}{w:World}(h:w.cell? ⟨a,0,none⟩=some x):(loadVar 321 ⟨a,0,none⟩).run prog w= .ok (.agg #[x]) w:=by
 have h1:(isAgg 321).run prog w= .ok true w:=by simp [isAgg,run_underlying underlying321]
 simp [loadVar,h1,loadCells,loadCellsFrom,h,Addr.add,go_sem]
@[go_sem] theorem zwP (n a:Nat){x:Value}{w:World}(h:w.cell? ⟨a,0,none⟩=some x):(method (n+1) 271 (.pointer (some ⟨a,0,none⟩)) "AsBool").run prog w= .ok (319,.agg #[x]) w:=zM (by kernel_rfl) underlying271 n (ZD h)
@[go_sem] theorem zwf (n a:Nat){x:Value}{w:World}(h:w.cell? ⟨a,0,none⟩=some x):(method (n+1) 271 (.pointer (some ⟨a,0,none⟩)) "AsFloat").run prog w= .ok (320,.agg #[x]) w:=zM (by kernel_rfl) underlying271 n (ZD h)
@[go_sem] theorem zxL (n a:Nat){x:Value}{w:World}(h:w.cell? ⟨a,0,none⟩=some x):(method (n+1) 271 (.pointer (some ⟨a,0,none⟩)) "AsInt").run prog w= .ok (321,.agg #[x]) w:=zM (by kernel_rfl) underlying271 n (ZD h)
@[go_sem] theorem zwQ (n a:Nat){x:Value}{w:World}(h:w.cell? ⟨a,0,none⟩=some x):(method (n+1) 271 (.pointer (some ⟨a,0,none⟩)) "AsList").run prog w= .ok (322,.agg #[x]) w:=zM (by kernel_rfl) underlying271 n (ZD h)
@[go_sem] theorem zsE (n a:Nat){x:Value}{w:World}(h:w.cell? ⟨a,0,none⟩=some x):(method (n+1) 271 (.pointer (some ⟨a,0,none⟩)) "AsListUsing").run prog w= .ok (323,.agg #[x]) w:=zM (by kernel_rfl) underlying271 n (ZD h)
@[go_sem] theorem zxM (n a:Nat){x:Value}{w:World}(h:w.cell? ⟨a,0,none⟩=some x):(method (n+1) 271 (.pointer (some ⟨a,0,none⟩)) "AsMap").run prog w= .ok (324,.agg #[x]) w:=zM (by kernel_rfl) underlying271 n (ZD h)
@[go_sem] theorem ztT (n a:Nat){x:Value}{w:World}(h:w.cell? ⟨a,0,none⟩=some x):(method (n+1) 271 (.pointer (some ⟨a,0,none⟩)) "AsMapUsing").run prog w= .ok (325,.agg #[x]) w:=zM (by kernel_rfl) underlying271 n (ZD h)
@[go_sem] theorem zvC (n a:Nat){x:Value}{w:World}(h:w.cell? ⟨a,0,none⟩=some x):(method (n+1) 271 (.pointer (some ⟨a,0,none⟩)) "AsString").run prog w= .ok (326,.agg #[x]) w:=zM (by kernel_rfl) underlying271 n (ZD h)
@[go_sem] theorem zwR (n a:Nat){x:Value}{w:World}(h:w.cell? ⟨a,0,none⟩=some x):(method (n+1) 271 (.pointer (some ⟨a,0,none⟩)) "IsBool").run prog w= .ok (327,.agg #[x]) w:=zM (by kernel_rfl) underlying271 n (ZD h)
@[go_sem] theorem zwg (n a:Nat){x:Value}{w:World}(h:w.cell? ⟨a,0,none⟩=some x):(method (n+1) 271 (.pointer (some ⟨a,0,none⟩)) "IsFloat").run prog w= .ok (328,.agg #[x]) w:=zM (by kernel_rfl) underlying271 n (ZD h)
@[go_sem] theorem zxN (n a:Nat){x:Value}{w:World}(h:w.cell? ⟨a,0,none⟩=some x):(method (n+1) 271 (.pointer (some ⟨a,0,none⟩)) "IsInt").run prog w= .ok (329,.agg #[x]) w:=zM (by kernel_rfl) underlying271 n (ZD h)
@[go_sem] theorem zwS (n a:Nat){x:Value}{w:World}(h:w.cell? ⟨a,0,none⟩=some x):(method (n+1) 271 (.pointer (some ⟨a,0,none⟩)) "IsList").run prog w= .ok (330,.agg #[x]) w:=zM (by kernel_rfl) underlying271 n (ZD h)
@[go_sem] theorem zxO (n a:Nat){x:Value}{w:World}(h:w.cell? ⟨a,0,none⟩=some x):(method (n+1) 271 (.pointer (some ⟨a,0,none⟩)) "IsMap").run prog w= .ok (331,.agg #[x]) w:=zM (by kernel_rfl) underlying271 n (ZD h)
@[go_sem] theorem zwT (n a:Nat){x:Value}{w:World}(h:w.cell? ⟨a,0,none⟩=some x):(method (n+1) 271 (.pointer (some ⟨a,0,none⟩)) "IsNull").run prog w= .ok (332,.agg #[x]) w:=zM (by kernel_rfl) underlying271 n (ZD h)
@[go_sem] theorem zvD (n a:Nat){x:Value}{w:World}(h:w.cell? ⟨a,0,none⟩=some x):(method (n+1) 271 (.pointer (some ⟨a,0,none⟩)) "IsString").run prog w= .ok (333,.agg #[x]) w:=zM (by kernel_rfl) underlying271 n (ZD h)
@[go_sem] theorem zrX (n a:Nat){x:Value}{w:World}(h:w.cell? ⟨a,0,none⟩=some x):(method (n+1) 271 (.pointer (some ⟨a,0,none⟩)) "Unstructured").run prog w= .ok (334,.agg #[x]) w:=zM (by kernel_rfl) underlying271 n (ZD h)
theorem zck {P:Program}{T:TypeId}{i off:Nat}(h:(match P.underlying T with|some (.struct fs)=>(match fs[i]? with|some f=>(match P.underlying f.type with|some (.struct _)=>none|some (.array _ _)=>none|some _=>some f.offset|none=>none)|none=>none)|_=>none)=some off){cs:Array Value}{v:Value}(hv:cs[off]? =some v)(w:World):
  (Instr.field T (.agg cs) i).run P w= .ok v w:=by
 unfold Instr.field
 cases hu:P.underlying T with
 |none=>simp [hu] at h
 |some d=>
  cases d with
  |struct fs=>
   simp only [hu] at h
   cases hf:fs[i]? with
   |none=>simp [hf] at h
   |some f=>
    simp only [hf] at h
    cases hd:P.underlying f.type with
    |none=>simp [hd] at h
    |some d2=>
     have hag:(isAgg f.type).run P w= .ok false w∧f.offset=off:=by
      simp only [hd] at h
      unfold isAgg
      rw[Sem.run_bind,run_underlying hd w]
      cases d2<;>simp_all
     simp [Sem.run_bind,run_underlying hu,hf,part,asAgg,hag.1,hag.2,hv]
  |_=>simp [hu] at h
@[go_sem] theorem zrY (c0 c1 c2 c3 c4 c5:Value)(w:World):(Instr.field 27 (.agg #[c0,c1,c2,c3,c4,c5]) 0).run prog w= .ok c0 w:=zck (off:=0) (by kernel_rfl) rfl w
@[go_sem] theorem zrZ (c0 c1 c2 c3 c4 c5:Value)(w:World):(Instr.field 27 (.agg #[c0,c1,c2,c3,c4,c5]) 1).run prog w= .ok c1 w:=zck (off:=1) (by kernel_rfl) rfl w
@[go_sem] theorem zr0 (c0 c1 c2 c3 c4 c5:Value)(w:World):(Instr.field 27 (.agg #[c0,c1,c2,c3,c4,c5]) 2).run prog w= .ok c2 w:=zck (off:=2) (by kernel_rfl) rfl w
@[go_sem] theorem zr1 (c0 c1 c2 c3 c4 c5:Value)(w:World):(Instr.field 27 (.agg #[c0,c1,c2,c3,c4,c5]) 3).run prog w= .ok c3 w:=zck (off:=3) (by kernel_rfl) rfl w
@[go_sem] theorem zr2 (c0 c1 c2 c3 c4 c5:Value)(w:World):(Instr.field 27 (.agg #[c0,c1,c2,c3,c4,c5]) 4).run prog w= .ok c4 w:=zck (off:=4) (by kernel_rfl) rfl w
@[go_sem] theorem zr3 (c0 c1 c2 c3 c4 c5:Value)(w:World):(Instr.field 27 (.agg #[c0,c1,c2,c3,c4,c5]) 5).run prog w= .ok c5 w:=zck (off:=5) (by kernel_rfl) rfl w
def zGV:GV:=.mk 0 0 0 ⟨#[]⟩ [] []
def zcl:LE→EV
 | .name s=>⟨0,s,[],[],zGV,0⟩
 | .key l=>⟨1,⟨#[]⟩,l.map (·.1),l.map fun p=>Zs p.2,zGV,0⟩
 | .val t=>⟨2,⟨#[]⟩,[],[],Zs t,0⟩
 | .idx n=>⟨3,⟨#[]⟩,[],[],zGV,n⟩
def zeh:LE→Prop
 | .key l=>l.length*88≤140737488351232
 |_=>True
theorem zg4 (t:Tree)(ht:zaM t){a b:Int}{c:Nat}{d:ByteArray}{e:List ByteArray}{f:List GV}(h:Zs t= .mk a b c d e f):ACalls prog 73 [.c (.d (dV t))] (fun r=>r=gvX a b c d e f):=by
 have:=zeM t ht
 rw[h,zdD] at this;exact this
theorem znJ (p:LE)(hf:ZR p)(hs:zeh p):ACalls prog 82 [leA p] (fun r=>r=evA (zcl p)):=by
 cases p with
 |name s=>
  simp only [zcl,zGV]
  rw[zdE]
  refine zf [(9,([],[(0,[]),(1,[]),(2,[]),(3,[]),(4,[]),(5,[]),(6,[]),(7,[]),(8,[])]))] func82 (by kernel_rfl) rfl ntmps82 results82 (Nat.le_of_ble_eq_true (by kernel_rfl)) ?_;intro hok w0 S0
  clear hok
  (repeat' (first|(with_reducible first|refine zj (fun _=>?_) (fun _=>?_)|refine zi (fun _=>?_) (fun _=>?_)|refine zk zb (by kernel_rfl) ?_|exact za rfl)|(simp -dsimp)));(all_goals try with_reducible refine za ?_)
 |idx n=>
  simp only [zcl,zGV]
  rw[zdE]
  refine zf [(9,([],[(0,[]),(1,[]),(2,[]),(3,[]),(4,[]),(5,[]),(6,[]),(7,[]),(8,[])]))] func82 (by kernel_rfl) rfl ntmps82 results82 (Nat.le_of_ble_eq_true (by kernel_rfl)) ?_;intro hok w0 S0
  clear hok
  (repeat' (first|(with_reducible first|refine zj (fun _=>?_) (fun _=>?_)|refine zi (fun _=>?_) (fun _=>?_)|refine zk zb (by kernel_rfl) ?_|exact za rfl)|(simp -dsimp)));(all_goals try with_reducible refine za ?_)
 |val t=>
  simp only [ZR] at hf
  simp only [zcl]
  cases hg:Zs t with
  |mk a b c d e f=>
   rw[zdE]
   refine zf [(9,([],[(0,[]),(1,[]),(2,[]),(3,[]),(4,[]),(5,[]),(6,[]),(7,[]),(8,[])]))] func82 (by kernel_rfl) rfl ntmps82 results82 (Nat.le_of_ble_eq_true (by kernel_rfl)) ?_;intro hok w0 S0
   clear hok
   (repeat' (first|(with_reducible first|refine zj (fun _=>?_) (fun _=>?_)|refine zi (fun _=>?_) (fun _=>?_)|refine zl (zg4 t hf hg) (by first|rfl|(simp -dsimp;done)) ?_|(refine zx (zg4 t hf hg) rfl ?_ ?_ ?_;iterate 2 exact by first|rfl|(simp -dsimp;done))|refine zk zb (by kernel_rfl) ?_|exact za rfl)|(simp -dsimp)));(all_goals try with_reducible refine za ?_)
 |key l=>
  simp only [ZR,zeh] at hf hs
  simp only [zcl,zGV]
  rw[zdE]
  obtain ⟨KS,hKS⟩:∃KS,KS=l.map fun p=>[dS p.1]:=⟨_,rfl⟩
  obtain ⟨VS,hVS⟩:∃VS,VS=l.map fun p=>gvD (Zs p.2):=⟨_,rfl⟩
  have e1:ZS (l.map (·.1))= .sl 9 KS:=by simp only [hKS,ZS,zag,List.map_map];rfl
  have e2:zaD (l.map fun p=>Zs p.2)= .sl 27 VS:=by simp only [hVS,zaD,List.map_map];rfl
  have k1:KS.length=l.length:=by simp [hKS]
  have v1:VS.length=l.length:=by simp [hVS]
  rw[evX,e1,e2]
  refine zf [(9,([],[(0,[]),(1,[]),(2,[]),(3,[]),(4,[]),(5,[]),(6,[]),(7,[]),(8,[])]))] func82 (by kernel_rfl) rfl ntmps82 results82 (Nat.le_of_ble_eq_true (by kernel_rfl)) ?_;intro hok w0 S0
  clear hok
  have b1:l.length≤9223372036854775807:=by omega
  (repeat' (first|(with_reducible first|refine zj (fun _=>?_) (fun _=>?_)|refine zi (fun _=>?_) (fun _=>?_)|refine zk zb (by kernel_rfl) ?_|exact za rfl)|(simp -dsimp [b1])));(all_goals try with_reducible refine za ?_)
  refine zF (fun i:Nat=>match i with
   |0=>⟨[(2,.c (.own 2 0)),(3,.c (.own 3 0)),(23,.c (.d (zja l))),(24,aI l.length),(25,aI 0)],[(2,.cells [.d (dI 0),.d (dS ⟨#[]⟩),.d (.v (.slice none 0 0)),.d (.v (.slice none 0 0)),.d (dI 0),.d (dI 0),.d (dF 0),.d (dS ⟨#[]⟩),.d (.v (.slice none 0 0)),.d (.v (.slice none 0 0)),.d (dI 0)] 29),(3,.cells [.d (dI 1),.d (dS ⟨#[]⟩),.d (.v (.slice none 0 0)),.d (.v (.slice none 0 0)),.d (dI 0),.d (dI 0),.d (dF 0),.d (dS ⟨#[]⟩),.d (.v (.slice none 0 0)),.d (.v (.slice none 0 0)),.d (dI 0)] 29)]⟩
   |i+1=>⟨[(2,.c (.own 2 0)),(3,.c (.own 3 0)),(23,.c (.d (zja l))),(24,aI l.length),(25,aI ((i+1:Nat):Int))],[(34,.arr (i+1) 9 (KS.take (i+1))),(42,.arr (i+1) 27 (VS.take (i+1))),(2,.cells [.d (dI 0),.d (dS ⟨#[]⟩),.d (.v (.slice none 0 0)),.d (.v (.slice none 0 0)),.d (dI 0),.d (dI 0),.d (dF 0),.d (dS ⟨#[]⟩),.d (.v (.slice none 0 0)),.d (.v (.slice none 0 0)),.d (dI 0)] 29),(3,.cells [.d (dI 1),.d (dS ⟨#[]⟩),.gs 34 (i+1),.gs 42 (i+1),.d (dI 0),.d (dI 0),.d (dF 0),.d (dS ⟨#[]⟩),.d (.v (.slice none 0 0)),.d (.v (.slice none 0 0)),.d (dI 0)] 29)]⟩)
   (fun i=>i≤l.length) (fun i=>l.length - i) 0 ?_ (Nat.zero_le _) ?_
  ·exact Weak.same (by simp -dsimp) (by simp -dsimp) (by first|rfl|(simp [zg,Av.ids,Ow.ids,Cl.ids,Go.Smd.keys];done))
  ·rintro i hi K hK
   have kT:∀(j:Nat) (h:j<l.length),KS.take (j+1)=KS.take j++ [[dS l[j].1]]:=fun j h=>by
    rw[List.take_succ_eq_append_getElem (by omega)];simp [hKS]
   have vT:∀(j:Nat) (h:j<l.length),VS.take (j+1)=VS.take j++ [gvD (Zs l[j].2)]:=fun j h=>by
    rw[List.take_succ_eq_append_getElem (by omega)];simp [hVS]
   cases i with
   |zero=>
    dsimp only
    by_cases hlt:0<l.length
    ·have IH0:=zeM l[0].2 (hf _ (List.getElem_mem hlt))
     (repeat' (first|(with_reducible first|refine zj (fun _=>?_) (fun _=>?_)|refine zi (fun _=>?_) (fun _=>?_)|refine zl (IH0) (by first|rfl|(simp -dsimp [hlt,zc,zbz];done)) ?_|(refine zx (IH0) rfl ?_ ?_ ?_;iterate 2 exact by first|rfl|(simp -dsimp [hlt,zc,zbz];done))|refine zk zb (by kernel_rfl) ?_|exact za rfl)|(simp -dsimp [hlt,zc,zbz])));(all_goals try with_reducible refine za ?_)
     refine hK _ 1 ?_ (by omega) (by omega)
     dsimp only
     rw[kT 0 hlt,vT 0 hlt]
     exact Weak.same (by simp -dsimp [w1]) (by simp -dsimp [w1]) (by first|rfl|(simp [zg,Av.ids,Ow.ids,Cl.ids,Go.Smd.keys];done))
    ·have e:l= []:=List.eq_nil_of_length_eq_zero (by omega)
     subst e
     simp only [List.map_nil] at hKS hVS
     subst hKS;subst hVS
     (repeat' (first|(with_reducible first|refine zj (fun _=>?_) (fun _=>?_)|refine zi (fun _=>?_) (fun _=>?_)|refine zk zb (by kernel_rfl) ?_|exact za rfl)|(simp -dsimp)));(all_goals try with_reducible refine za ?_)
   |succ i=>
    dsimp only
    have r1:(KS.take (i+1)).length=i+1:=by simp;omega
    have r2:(VS.take (i+1)).length=i+1:=by simp;omega
    obtain ⟨R1,hR1⟩:∃R,R=KS.take (i+1):=⟨_,rfl⟩
    obtain ⟨R2,hR2⟩:∃R,R=VS.take (i+1):=⟨_,rfl⟩
    rw[←hR1] at r1 ⊢
    rw[←hR2] at r2 ⊢
    by_cases hlt:i+1<l.length
    ·have IH0:=zeM l[i+1].2 (hf _ (List.getElem_mem hlt))
     have hw:IntKind.wrap .i64 (((i+1:Nat):Int)+1)=((i+1+1:Nat):Int):=by rw[zq]<;>omega
     have hw2:IntKind.wrap .i64 ((i:Int)+1+1)=((i+1+1:Nat):Int):=by rw[zq]<;>omega
     have hb:(i+1+1)*88≤140737488351232:=by omega
     have hb2:(i+1+1)*16≤140737488351232:=by omega
     have h1:(i:Int)+1<l.length:=by omega
     have h2:(0:Int)≤(i:Int)+1:=by omega
     have h3:((i:Int)+1).toNat=i+1:=by omega
     (repeat' (first|(with_reducible first|refine zj (fun _=>?_) (fun _=>?_)|refine zi (fun _=>?_) (fun _=>?_)|refine zl (IH0) (by first|rfl|(simp -dsimp [hlt,r1,r2,hw,hw2,hb,hb2,h1,h2,h3,zc,zbz];done)) ?_|(refine zx (IH0) rfl ?_ ?_ ?_;iterate 2 exact by first|rfl|(simp -dsimp [hlt,r1,r2,hw,hw2,hb,hb2,h1,h2,h3,zc,zbz];done))|refine zk zb (by kernel_rfl) ?_|exact za rfl)|(simp -dsimp [hlt,r1,r2,hw,hw2,hb,hb2,h1,h2,h3,zc,zbz])));(all_goals try with_reducible refine za ?_)
     refine hK _ (i+1+1) ?_ (by omega) (by omega)
     dsimp only
     rw[kT (i+1) hlt,vT (i+1) hlt,←hR1,←hR2]
     exact Weak.same (by simp -dsimp) (by simp -dsimp) (by first|rfl|(simp [zg,Av.ids,Ow.ids,Cl.ids,Go.Smd.keys];done))
    ·have h1:¬(i:Int)+1<l.length:=by omega
     have e3:R1=KS:=by rw[hR1,List.take_of_length_le (by omega)]
     have e4:R2=VS:=by rw[hR2,List.take_of_length_le (by omega)]
     (repeat' (first|(with_reducible first|refine zj (fun _=>?_) (fun _=>?_)|refine zi (fun _=>?_) (fun _=>?_)|refine zk zb (by kernel_rfl) ?_|exact za rfl)|(simp -dsimp [h1])));(all_goals try with_reducible refine za ?_)
     rw[e3,e4]
     rfl
theorem zr4 {e:EV}(hl:e.l.length*88≤140737488351232):zeh (zX e):=by
 unfold zX
 split
 ·simp only [zeh,zcS];simp;omega
 ·split
  ·trivial
  ·split<;>trivial
def CE (e:EV):EV:=
 if e.k=1 then ⟨1,⟨#[]⟩,e.keys.take (min e.keys.length e.l.length),(e.l.take (min e.keys.length e.l.length)).map zL,zGV,0⟩
 else if e.k=2 then ⟨2,⟨#[]⟩,[],[],zL e.v,0⟩
 else if e.k=3 then ⟨3,⟨#[]⟩,[],[],zGV,e.n⟩
 else ⟨0,e.s,[],[],zGV,0⟩
theorem zg5 (e:EV)(hk:e.keys.length*16≤140737488351232)(hl:e.l.length*88≤140737488351232):ACalls prog 63 [evA e] (fun r=>r=evA (CE e)):=by
 obtain ⟨k,s,keys,l,⟨a,b,c,d,e,f⟩,n⟩:=e
 dsimp only at hk hl
 obtain ⟨m,hm⟩:∃m:Nat,m=min keys.length l.length:=⟨_,rfl⟩
 obtain ⟨a1,a2,a3,a4,a5,a6,hcl⟩:∃a1 a2 a3 a4 a5 a6,zL (.mk a b c d e f)= .mk a1 a2 a3 a4 a5 a6:=by cases zL (.mk a b c d e f);exact ⟨_,_,_,_,_,_,rfl⟩
 have hc:=zfY (.mk a b c d e f)
 rw[hcl,zdD,zdD] at hc
 have hCE:evA (CE ⟨k,s,keys,l,.mk a b c d e f,n⟩)=if k=1 then evX 1 ⟨#[]⟩ (keys.take m) ((l.take m).map zL) 0 0 0 ⟨#[]⟩ [] [] 0 else if k=2 then evX 2 ⟨#[]⟩ [] [] a1 a2 a3 a4 a5 a6 0 else if k=3 then evX 3 ⟨#[]⟩ [] [] 0 0 0 ⟨#[]⟩ [] [] n else evX 0 s [] [] 0 0 0 ⟨#[]⟩ [] [] 0:=by
  unfold CE
  simp only [zGV,hcl,←hm]
  repeat' split
  all_goals rw[zdE]
 rw[hCE,zdE]
 refine zf [(4,([10],[(1,[]),(2,[]),(3,[]),(4,[]),(6,[]),(7,[]),(8,[]),(9,[]),(0,[]),(5,[]),(10,[]),(11,[]),(12,[])]))] func63 (by kernel_rfl) rfl ntmps63 results63 (Nat.le_of_ble_eq_true (by kernel_rfl)) ?_;intro hok w0 S0
 clear hok
 have b1:keys.length≤9223372036854775807:=by omega
 have b2:l.length≤9223372036854775807:=by omega
 have hmin:min (keys.length:Int) (l.length:Int)=(m:Int):=by omega
 have hm1:m≤keys.length:=by omega
 have hm2:m≤l.length:=by omega
 have hp:=zgX (l.take m) (by simp;omega)
 rw[show zaD (l.take m)= .sl 27 ((l.map gvD).take m) by rw[zaD,List.map_take]] at hp
 have hr:m*16≤140737488351232:=by omega
 (repeat' (first|(with_reducible first|refine zj (fun _=>?_) (fun _=>?_)|refine zi (fun _=>?_) (fun _=>?_)|refine zl (hc) (by first|rfl|(simp -dsimp [b1,b2,zc,hmin,hm1,hm2,hr];done)) ?_|(refine zx (hc) rfl ?_ ?_ ?_;iterate 2 exact by first|rfl|(simp -dsimp [b1,b2,zc,hmin,hm1,hm2,hr];done))|refine zl (hp) (by first|rfl|(simp -dsimp [b1,b2,zc,hmin,hm1,hm2,hr];done)) ?_|(refine zx (hp) rfl ?_ ?_ ?_;iterate 2 exact by first|rfl|(simp -dsimp [b1,b2,zc,hmin,hm1,hm2,hr];done))|refine zk zb (by kernel_rfl) ?_|exact za rfl)|(simp -dsimp [b1,b2,zc,hmin,hm1,hm2,hr])));(all_goals try with_reducible refine za ?_)
 ·rename_i h
  rw[if_pos h]
  simp only [evX,ZS,zaD,zag,List.map_take];rfl
 ·rename_i h1 h2
  rw[if_neg h1,if_pos h2]
  try rfl
 ·rename_i h1 h2 h3
  rw[if_neg h1,if_neg h2,if_pos h3]
  try rfl
 ·rename_i h1 h2 h3
  rw[if_neg h1,if_neg h2,if_neg h3]
  try rfl
def zbq:List EV→List EV→Int
 | [],[]=>0
 | [],_::_=> -1
 |_::_,[]=>1
 |a::u,b::z=>if zw a b=0 then zbq u z else if u.isEmpty=z.isEmpty then zw a b else if u.isEmpty=true then -1 else 1
def zhg:List EV→List (Int×EV)
 | []=>[]
 |a::u=>((if u.isEmpty=true then 0 else 1),a)::zhg u
def zvE (x y:Int×EV):Int:=if zA x.1 y.1≠0 then zA x.1 y.1 else zw x.2 y.2
theorem ziH:∀p q:List EV,zbq p q=zC zvE (zhg p) (zhg q)
 | [],[]=>rfl
 | [],_::_=>rfl
 |_::_,[]=>rfl
 |a::u,b::z=>by
  simp only [zbq,zhg,zC,zvE,ziH u z]
  by_cases h:zw a b=0
  ·rw[if_pos h]
   cases u<;>cases z<;>simp [h,zA,zhg,zC]
  ·rw[if_neg h]
   cases u<;>cases z<;>simp [h,zA]
abbrev zli (p:List EV):Prop:=∀e∈p,OE e
theorem zmt:∀{p:List EV} {x:Int×EV},x∈zhg p→x.2∈p
 | [],_,h=>by simp [zhg] at h
 |a::u,x,h=>by
  simp only [zhg] at h
  rcases List.mem_cons.1 h with rfl|h
  ·simp
  ·exact List.mem_cons_of_mem _ (zmt h)
theorem zdL:Ord3 zli zbq:=by
 have h1:Ord3 (fun x:Int×EV=>OE x.2) (fun x y=>zA x.1 y.1):=(zb7.comap (fun x:Int×EV=>x.1)).mono fun _ _=>trivial
 have h2:Ord3 (fun x:Int×EV=>OE x.2) (fun x y=>zw x.2 y.2):=zo.comap (fun x:Int×EV=>x.2)
 have h3:Ord3 (fun x:Int×EV=>OE x.2) zvE:=h1.lex (fun x y hx hy _=>h2.anti x y hx hy) fun x y z hx hy hz _ _=>h2.trans x y z hx hy hz
 have h4:=(h3.row.comap zhg).mono (O':=zli) fun p hp x hx=>hp _ (zmt hx)
 exact h4.congr fun p q _ _=>ziH p q
theorem zmu {p q:List EV}(h:p= []∨q= []):zbq p q=zA (p.length:Int) q.length:=by
 rw[ziH,zd8 (by rcases h with rfl|rfl<;>simp [zhg])]
 have:∀p:List EV,(zhg p).length=p.length:=fun p=>by induction p with|nil=>rfl|cons a p ih=>simp [zhg,ih]
 rw[this,this]
theorem zr5 (a b:EV):zw (CE a) b=zw a b:=by
 obtain ⟨k,s,keys,l,v,n⟩:=a
 have hz:∀{ks:List ByteArray} {l:List GV},(ks.take (min ks.length l.length)).zip ((l.take (min ks.length l.length)).map zL)=(ks.zip l).map fun p=>(p.1,zL p.2):=fun {ks}=>by
  induction ks with
  |nil=>intro l;simp
  |cons k ks ih=>
   intro l
   cases l with
   |nil=>simp
   |cons x l=>
    have hm:min (k::ks).length (x::l).length=min ks.length l.length+1:=by simp only [List.length_cons];omega
    rw[hm];simp only [List.take_succ_cons,List.map_cons,List.zip_cons_cons,ih]
 have hr:∀A B:List (ByteArray×GV),zC zcb (A.map fun p=>(p.1,zL p.2)) B=zC zcb A B:=fun A=>by
  induction A with
  |nil=>intro B;simp
  |cons x A ih=>
   intro B
   cases B with
   |nil=>simp [zC]
   |cons y B=>simp [zC,zcb,zir,ih]
 simp only [CE]
 by_cases h1:k=1
 ·subst h1
  simp only [if_true,zw,rkE,hz,hr]
  simp
 ·by_cases h2:k=2
  ·subst h2
   simp [zw,rkE,zir]
  ·by_cases h3:k=3
   ·subst h3
    simp [zw,rkE]
   ·simp [zw,rkE,h1,h2,h3]
abbrev cP (p:List EV):List EV:=p.map CE
theorem zf3:∀p q:List EV,zbq (cP p) q=zbq p q
 | [],[]=>rfl
 | [],_::_=>rfl
 |_::_,[]=>rfl
 |a::u,b::z=>by
  have ih:=zf3 u z
  simp only [cP] at ih
  simp only [cP,List.map_cons,zbq,zr5,ih,List.isEmpty_map]
end Go.Smd
end
