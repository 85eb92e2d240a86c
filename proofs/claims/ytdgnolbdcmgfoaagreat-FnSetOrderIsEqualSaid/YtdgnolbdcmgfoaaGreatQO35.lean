/- Part 35 of the proof: Assert Zn Jr Ka Js Kb Kc. -/
import Derived.Test.YtdgnolbdcmgfoaaGreatQO01
import Derived.Test.YtdgnolbdcmgfoaaGreatQO19
import Derived.Test.YtdgnolbdcmgfoaaGreatQO32
import Derived.Test.YtdgnolbdcmgfoaaGreatQO34
import Derived.Test.YtdgnolbdcmgfoaaGreatQO20
import Derived.Test.YtdgnolbdcmgfoaaGreatQO21
import Derived.Test.YtdgnolbdcmgfoaaGreatQO24
import Derived.Test.YtdgnolbdcmgfoaaGreatQO08
import Derived.Test.YtdgnolbdcmgfoaaGreatQO25
import Derived.Test.YtdgnolbdcmgfoaaGreatQO27
set_option linter.unusedVariables false
set_option linter.unusedSimpArgs false
set_option maxRecDepth 100000
set_option maxHeartbeats 8000000
section
namespace Go.Smd
open Go.RowKit Go.Proofs Go.Proofs.Tryz
theorem zP {P:Program}{U:TypeId}{d:TypeDesc}(hu:P.underlying U=some d)(hd:(match d with| .interface _=>false|_=>true)=true)(v:Value)(x:TypeId)(w:World):
  (Instr.typeAssert (.iface U v) x U true).run P w= .ok (.tuple #[v,.bool true]) w:=by
 unfold Instr.typeAssert
 simp only [Sem.run_bind,run_underlying hu,Result.andThen_ok]
 cases d<;>simp_all
theorem zH {P:Program}{U:TypeId}{d:TypeDesc}(hu:P.underlying U=some d)(hd:(match d with| .interface _=>false|_=>true)=true)(v:Value)(x:TypeId)(w:World):
  (Instr.typeAssert (.iface U v) x U false).run P w= .ok v w:=by
 unfold Instr.typeAssert
 simp only [Sem.run_bind,run_underlying hu,Result.andThen_ok]
 cases d<;>simp_all
theorem zI {P:Program}{U:TypeId}{d:TypeDesc}{z:Value}(hu:P.underlying U=some d)(hd:(match d with| .interface _=>false|_=>true)=true)(hz:(P.info? U).map (·.zero)=some (some z)){t:TypeId}(ht:t≠U)(v:Value)(x:TypeId)(w:World):
  (Instr.typeAssert (.iface t v) x U true).run P w= .ok (.tuple #[z,.bool false]) w:=by
 obtain ⟨i,hi,hz'⟩:=Option.map_eq_some_iff.1 hz
 unfold Instr.typeAssert
 simp only [Sem.run_bind,run_underlying hu,Result.andThen_ok]
 cases d<;>simp_all [zeroValue,typeInfo]
theorem zU {P:Program}{U:TypeId}{d:TypeDesc}{z:Value}(hu:P.underlying U=some d)(hd:(match d with| .interface _=>false|_=>true)=true)(hz:(P.info? U).map (·.zero)=some (some z))(x:TypeId)(w:World):
  (Instr.typeAssert .nilIface x U true).run P w= .ok (.tuple #[z,.bool false]) w:=by
 obtain ⟨i,hi,hz'⟩:=Option.map_eq_some_iff.1 hz
 unfold Instr.typeAssert
 simp only [Sem.run_bind,run_underlying hu,Result.andThen_ok]
 cases d<;>simp_all [zeroValue,typeInfo]
@[go_sem] theorem ztV (v:Value)(x:TypeId)(w:World):(Instr.typeAssert (.iface 259 v) x 259 true).run prog w= .ok (.tuple #[v,.bool true]) w:=zP (d:=_) underlying259 rfl v x w
@[go_sem] theorem zuq (v:Value)(x:TypeId)(w:World):(Instr.typeAssert (.iface 259 v) x 259 false).run prog w= .ok v w:=zH (d:=_) underlying259 rfl v x w
@[go_sem] theorem zsG (t:TypeId)(ht:(t==259)=false)(v:Value)(x:TypeId)(w:World):(Instr.typeAssert (.iface t v) x 259 true).run prog w= .ok (.tuple #[.slice none 0 0,.bool false]) w:=zI (d:=_) underlying259 rfl (by kernel_rfl) (by simpa using ht) v x w
@[go_sem] theorem zur (x:TypeId)(w:World):(Instr.typeAssert .nilIface x 259 true).run prog w= .ok (.tuple #[.slice none 0 0,.bool false]) w:=zU (d:=_) underlying259 rfl (by kernel_rfl) x w
@[go_sem] theorem zus (v:Value)(x:TypeId)(w:World):(Instr.typeAssert (.iface 276 v) x 276 true).run prog w= .ok (.tuple #[v,.bool true]) w:=zP (d:=_) underlying276 rfl v x w
@[go_sem] theorem zvA (v:Value)(x:TypeId)(w:World):(Instr.typeAssert (.iface 276 v) x 276 false).run prog w= .ok v w:=zH (d:=_) underlying276 rfl v x w
@[go_sem] theorem ztW (t:TypeId)(ht:(t==276)=false)(v:Value)(x:TypeId)(w:World):(Instr.typeAssert (.iface t v) x 276 true).run prog w= .ok (.tuple #[.map none,.bool false]) w:=zI (d:=_) underlying276 rfl (by kernel_rfl) (by simpa using ht) v x w
@[go_sem] theorem zvB (x:TypeId)(w:World):(Instr.typeAssert .nilIface x 276 true).run prog w= .ok (.tuple #[.map none,.bool false]) w:=zU (d:=_) underlying276 rfl (by kernel_rfl) x w
@[go_sem] theorem zut (v:Value)(x:TypeId)(w:World):(Instr.typeAssert (.iface 2 v) x 2 true).run prog w= .ok (.tuple #[v,.bool true]) w:=zP (d:=_) underlying2 rfl v x w
@[go_sem] theorem zvC (v:Value)(x:TypeId)(w:World):(Instr.typeAssert (.iface 2 v) x 2 false).run prog w= .ok v w:=zH (d:=_) underlying2 rfl v x w
@[go_sem] theorem ztX (t:TypeId)(ht:(t==2)=false)(v:Value)(x:TypeId)(w:World):(Instr.typeAssert (.iface t v) x 2 true).run prog w= .ok (.tuple #[.int .i64 0,.bool false]) w:=zI (d:=_) underlying2 rfl (by kernel_rfl) (by simpa using ht) v x w
@[go_sem] theorem zvD (x:TypeId)(w:World):(Instr.typeAssert .nilIface x 2 true).run prog w= .ok (.tuple #[.int .i64 0,.bool false]) w:=zU (d:=_) underlying2 rfl (by kernel_rfl) x w
@[go_sem] theorem zuu (v:Value)(x:TypeId)(w:World):(Instr.typeAssert (.iface 21 v) x 21 true).run prog w= .ok (.tuple #[v,.bool true]) w:=zP (d:=_) underlying21 rfl v x w
@[go_sem] theorem zvE (v:Value)(x:TypeId)(w:World):(Instr.typeAssert (.iface 21 v) x 21 false).run prog w= .ok v w:=zH (d:=_) underlying21 rfl v x w
@[go_sem] theorem ztY (t:TypeId)(ht:(t==21)=false)(v:Value)(x:TypeId)(w:World):(Instr.typeAssert (.iface t v) x 21 true).run prog w= .ok (.tuple #[.int .i32 0,.bool false]) w:=zI (d:=_) underlying21 rfl (by kernel_rfl) (by simpa using ht) v x w
@[go_sem] theorem zvF (x:TypeId)(w:World):(Instr.typeAssert .nilIface x 21 true).run prog w= .ok (.tuple #[.int .i32 0,.bool false]) w:=zU (d:=_) underlying21 rfl (by kernel_rfl) x w
@[go_sem] theorem zuv (v:Value)(x:TypeId)(w:World):(Instr.typeAssert (.iface 25 v) x 25 true).run prog w= .ok (.tuple #[v,.bool true]) w:=zP (d:=_) underlying25 rfl v x w
@[go_sem] theorem zvG (v:Value)(x:TypeId)(w:World):(Instr.typeAssert (.iface 25 v) x 25 false).run prog w= .ok v w:=zH (d:=_) underlying25 rfl v x w
@[go_sem] theorem ztZ (t:TypeId)(ht:(t==25)=false)(v:Value)(x:TypeId)(w:World):(Instr.typeAssert (.iface t v) x 25 true).run prog w= .ok (.tuple #[.float .f64 0,.bool false]) w:=zI (d:=_) underlying25 rfl (by kernel_rfl) (by simpa using ht) v x w
@[go_sem] theorem zvH (x:TypeId)(w:World):(Instr.typeAssert .nilIface x 25 true).run prog w= .ok (.tuple #[.float .f64 0,.bool false]) w:=zU (d:=_) underlying25 rfl (by kernel_rfl) x w
@[go_sem] theorem zuw (v:Value)(x:TypeId)(w:World):(Instr.typeAssert (.iface 3 v) x 3 true).run prog w= .ok (.tuple #[v,.bool true]) w:=zP (d:=_) underlying3 rfl v x w
@[go_sem] theorem zvI (v:Value)(x:TypeId)(w:World):(Instr.typeAssert (.iface 3 v) x 3 false).run prog w= .ok v w:=zH (d:=_) underlying3 rfl v x w
@[go_sem] theorem zt0 (t:TypeId)(ht:(t==3)=false)(v:Value)(x:TypeId)(w:World):(Instr.typeAssert (.iface t v) x 3 true).run prog w= .ok (.tuple #[.int .i64 0,.bool false]) w:=zI (d:=_) underlying3 rfl (by kernel_rfl) (by simpa using ht) v x w
@[go_sem] theorem zvJ (x:TypeId)(w:World):(Instr.typeAssert .nilIface x 3 true).run prog w= .ok (.tuple #[.int .i64 0,.bool false]) w:=zU (d:=_) underlying3 rfl (by kernel_rfl) x w
@[go_sem] theorem zt1 (v:Value)(x:TypeId)(w:World):(Instr.typeAssert (.iface 4 v) x 4 true).run prog w= .ok (.tuple #[v,.bool true]) w:=zP (d:=_) underlying4 rfl v x w
@[go_sem] theorem zux (v:Value)(x:TypeId)(w:World):(Instr.typeAssert (.iface 4 v) x 4 false).run prog w= .ok v w:=zH (d:=_) underlying4 rfl v x w
@[go_sem] theorem zsH (t:TypeId)(ht:(t==4)=false)(v:Value)(x:TypeId)(w:World):(Instr.typeAssert (.iface t v) x 4 true).run prog w= .ok (.tuple #[.bool false,.bool false]) w:=zI (d:=_) underlying4 rfl (by kernel_rfl) (by simpa using ht) v x w
@[go_sem] theorem zuy (x:TypeId)(w:World):(Instr.typeAssert .nilIface x 4 true).run prog w= .ok (.tuple #[.bool false,.bool false]) w:=zU (d:=_) underlying4 rfl (by kernel_rfl) x w
@[go_sem] theorem zvK (v:Value)(x:TypeId)(w:World):(Instr.typeAssert (.iface 5 v) x 5 true).run prog w= .ok (.tuple #[v,.bool true]) w:=zP (d:=_) underlying5 rfl v x w
@[go_sem] theorem zwa (v:Value)(x:TypeId)(w:World):(Instr.typeAssert (.iface 5 v) x 5 false).run prog w= .ok v w:=zH (d:=_) underlying5 rfl v x w
@[go_sem] theorem zuz (t:TypeId)(ht:(t==5)=false)(v:Value)(x:TypeId)(w:World):(Instr.typeAssert (.iface t v) x 5 true).run prog w= .ok (.tuple #[.int .u8 0,.bool false]) w:=zI (d:=_) underlying5 rfl (by kernel_rfl) (by simpa using ht) v x w
@[go_sem] theorem zwb (x:TypeId)(w:World):(Instr.typeAssert .nilIface x 5 true).run prog w= .ok (.tuple #[.int .u8 0,.bool false]) w:=zU (d:=_) underlying5 rfl (by kernel_rfl) x w
@[go_sem] theorem zuA (v:Value)(x:TypeId)(w:World):(Instr.typeAssert (.iface 9 v) x 9 true).run prog w= .ok (.tuple #[v,.bool true]) w:=zP (d:=_) underlying9 rfl v x w
@[go_sem] theorem zvL (v:Value)(x:TypeId)(w:World):(Instr.typeAssert (.iface 9 v) x 9 false).run prog w= .ok v w:=zH (d:=_) underlying9 rfl v x w
@[go_sem] theorem zt2 (t:TypeId)(ht:(t==9)=false)(v:Value)(x:TypeId)(w:World):(Instr.typeAssert (.iface t v) x 9 true).run prog w= .ok (.tuple #[.string ⟨#[]⟩,.bool false]) w:=zI (d:=_) underlying9 rfl (by kernel_rfl) (by simpa using ht) v x w
@[go_sem] theorem zvM (x:TypeId)(w:World):(Instr.typeAssert .nilIface x 9 true).run prog w= .ok (.tuple #[.string ⟨#[]⟩,.bool false]) w:=zU (d:=_) underlying9 rfl (by kernel_rfl) x w
@[go_sem] theorem zuB (v:Value)(x:TypeId)(w:World):(Instr.typeAssert (.iface 385 v) x 385 true).run prog w= .ok (.tuple #[v,.bool true]) w:=zP (d:=_) underlying385 rfl v x w
@[go_sem] theorem zvN (v:Value)(x:TypeId)(w:World):(Instr.typeAssert (.iface 385 v) x 385 false).run prog w= .ok v w:=zH (d:=_) underlying385 rfl v x w
@[go_sem] theorem zt3 (t:TypeId)(ht:(t==385)=false)(v:Value)(x:TypeId)(w:World):(Instr.typeAssert (.iface t v) x 385 true).run prog w= .ok (.tuple #[.int .u32 0,.bool false]) w:=zI (d:=_) underlying385 rfl (by kernel_rfl) (by simpa using ht) v x w
@[go_sem] theorem zvO (x:TypeId)(w:World):(Instr.typeAssert .nilIface x 385 true).run prog w= .ok (.tuple #[.int .u32 0,.bool false]) w:=zU (d:=_) underlying385 rfl (by kernel_rfl) x w
@[go_sem] theorem zuC (v:Value)(x:TypeId)(w:World):(Instr.typeAssert (.iface 431 v) x 431 true).run prog w= .ok (.tuple #[v,.bool true]) w:=zP (d:=_) underlying431 rfl v x w
@[go_sem] theorem zvP (v:Value)(x:TypeId)(w:World):(Instr.typeAssert (.iface 431 v) x 431 false).run prog w= .ok v w:=zH (d:=_) underlying431 rfl v x w
@[go_sem] theorem zt4 (t:TypeId)(ht:(t==431)=false)(v:Value)(x:TypeId)(w:World):(Instr.typeAssert (.iface t v) x 431 true).run prog w= .ok (.tuple #[.float .f32 0,.bool false]) w:=zI (d:=_) underlying431 rfl (by kernel_rfl) (by simpa using ht) v x w
@[go_sem] theorem zvQ (x:TypeId)(w:World):(Instr.typeAssert .nilIface x 431 true).run prog w= .ok (.tuple #[.float .f32 0,.bool false]) w:=zU (d:=_) underlying431 rfl (by kernel_rfl) x w
@[go_sem] theorem zvR (v:Value)(x:TypeId)(w:World):(Instr.typeAssert (.iface 433 v) x 433 true).run prog w= .ok (.tuple #[v,.bool true]) w:=zP (d:=_) underlying433 rfl v x w
@[go_sem] theorem zwc (v:Value)(x:TypeId)(w:World):(Instr.typeAssert (.iface 433 v) x 433 false).run prog w= .ok v w:=zH (d:=_) underlying433 rfl v x w
@[go_sem] theorem zuD (t:TypeId)(ht:(t==433)=false)(v:Value)(x:TypeId)(w:World):(Instr.typeAssert (.iface t v) x 433 true).run prog w= .ok (.tuple #[.int .i8 0,.bool false]) w:=zI (d:=_) underlying433 rfl (by kernel_rfl) (by simpa using ht) v x w
@[go_sem] theorem zwd (x:TypeId)(w:World):(Instr.typeAssert .nilIface x 433 true).run prog w= .ok (.tuple #[.int .i8 0,.bool false]) w:=zU (d:=_) underlying433 rfl (by kernel_rfl) x w
@[go_sem] theorem zuE (v:Value)(x:TypeId)(w:World):(Instr.typeAssert (.iface 435 v) x 435 true).run prog w= .ok (.tuple #[v,.bool true]) w:=zP (d:=_) underlying435 rfl v x w
@[go_sem] theorem zvS (v:Value)(x:TypeId)(w:World):(Instr.typeAssert (.iface 435 v) x 435 false).run prog w= .ok v w:=zH (d:=_) underlying435 rfl v x w
@[go_sem] theorem zt5 (t:TypeId)(ht:(t==435)=false)(v:Value)(x:TypeId)(w:World):(Instr.typeAssert (.iface t v) x 435 true).run prog w= .ok (.tuple #[.int .i16 0,.bool false]) w:=zI (d:=_) underlying435 rfl (by kernel_rfl) (by simpa using ht) v x w
@[go_sem] theorem zvT (x:TypeId)(w:World):(Instr.typeAssert .nilIface x 435 true).run prog w= .ok (.tuple #[.int .i16 0,.bool false]) w:=zU (d:=_) underlying435 rfl (by kernel_rfl) x w
@[go_sem] theorem zt6 (v:Value)(x:TypeId)(w:World):(Instr.typeAssert (.iface 317 v) x 317 true).run prog w= .ok (.tuple #[v,.bool true]) w:=zP (d:=_) underlying317 rfl v x w
@[go_sem] theorem zuF (v:Value)(x:TypeId)(w:World):(Instr.typeAssert (.iface 317 v) x 317 false).run prog w= .ok v w:=zH (d:=_) underlying317 rfl v x w
@[go_sem] theorem zsI (t:TypeId)(ht:(t==317)=false)(v:Value)(x:TypeId)(w:World):(Instr.typeAssert (.iface t v) x 317 true).run prog w= .ok (.tuple #[.int .u64 0,.bool false]) w:=zI (d:=_) underlying317 rfl (by kernel_rfl) (by simpa using ht) v x w
@[go_sem] theorem zuG (x:TypeId)(w:World):(Instr.typeAssert .nilIface x 317 true).run prog w= .ok (.tuple #[.int .u64 0,.bool false]) w:=zU (d:=_) underlying317 rfl (by kernel_rfl) x w
@[go_sem] theorem zuH (v:Value)(x:TypeId)(w:World):(Instr.typeAssert (.iface 440 v) x 440 true).run prog w= .ok (.tuple #[v,.bool true]) w:=zP (d:=_) underlying440 rfl v x w
@[go_sem] theorem zvU (v:Value)(x:TypeId)(w:World):(Instr.typeAssert (.iface 440 v) x 440 false).run prog w= .ok v w:=zH (d:=_) underlying440 rfl v x w
@[go_sem] theorem zt7 (t:TypeId)(ht:(t==440)=false)(v:Value)(x:TypeId)(w:World):(Instr.typeAssert (.iface t v) x 440 true).run prog w= .ok (.tuple #[.int .u16 0,.bool false]) w:=zI (d:=_) underlying440 rfl (by kernel_rfl) (by simpa using ht) v x w
@[go_sem] theorem zvV (x:TypeId)(w:World):(Instr.typeAssert .nilIface x 440 true).run prog w= .ok (.tuple #[.int .u16 0,.bool false]) w:=zU (d:=_) underlying440 rfl (by kernel_rfl) x w
theorem AProc.frz {P:Program}{f:FuncId}{args args':List Av}{own own':List (Nat×Ow)}{R:Av→List (Nat×Ow)→Prop}(F:List Nat)(h:AProc P f args' own' R)(ho:(St.mk [] own).frz P F=⟨[],own'⟩)(ha:args.map (zcU P F (ze own))=args'):AProc P f args own R:=
 ⟨h.1,fun w E β vs s hv=>by
  have k:=s.frzAll F
  have k2:=k.2
  rw[ho] at k k2
  refine h.2 w E β vs k.1 ?_
  subst ha
  refine All2.of (by rw[List.length_map];exact hv.length) fun i x v hx hy=>?_
  rw[List.getElem?_map] at hx
  obtain ⟨y,hy',rfl⟩:=Option.map_eq_some_iff.1 hx
  obtain ⟨u,hu,hr⟩:=hv.at hy'
  rw[hy] at hu;cases hu
  exact k2 y v hr⟩
theorem AProc.frzr {P:Program}{f:FuncId}{args:List Av}{own o0 o1:List (Nat×Ow)}{r0 r1:Av}(F:List Nat)(h:AProc P f args own fun r own'=>r=r0∧own'=o0)(ho:(St.mk [] o0).frz P F=⟨[],o1⟩)(hr:zcU P F (ze o0) r0=r1):
  AProc P f args own fun r own'=>r=r1∧own'=o1:=
 ⟨h.1,fun w E β vs s hv=>(h.2 w E β vs s hv).mono fun e w' ⟨v,r,β',own',h1,⟨h2,h3⟩,s',h4⟩=>by
  subst h2;subst h3
  have k:=s'.frzAll F
  have k2:=k.2
  rw[ho] at k k2
  refine ⟨v,r1,β',o1,h1,⟨rfl,rfl⟩,k.1,?_⟩
  have:=k2 r v h4
  rw[←hr]
  exact this⟩
abbrev tEl:TypeId:=29
theorem znY (n:Nat)(p:List LE)(hf:∀q∈p,zas q∧zek q)(hl:p.length*168≤140737488351232):
  AProc prog 147 [.c (.gs 1000000000 n)] [(1000000000,.arr n tPE (p.map leD))] (fun r own'=>r= .c (.gs 6 p.length)∧own'= [(6,.arr p.length tEl (p.map (evD∘Zm))),(1000000000,.arr n tPE (p.map leD))]):=by
 have b1:p.length≤9223372036854775807:=by omega
 refine zap [] func147 (by kernel_rfl) rfl ntmps147 results147 (Nat.le_of_ble_eq_true (by kernel_rfl)) ?_;intro hok w0 S0
 (repeat' (first|(with_reducible first|refine zl (fun _=>?_) (fun _=>?_)|refine zk (fun _=>?_) (fun _=>?_)|refine zm zd (by kernel_rfl) ?_|exact zc rfl)|(simp -dsimp [b1])));(all_goals try with_reducible refine zc ?_)
 refine zJ (fun i:Nat=>⟨[(3,.c (.gs 6 i)),(7,.c (.gs 1000000000 n)),(8,aI p.length),(9,aI i)],[(6,.arr i tEl ((p.map (evD∘Zm)).take i)),(1000000000,.arr n tPE (p.map leD))]⟩) (fun i=>i≤p.length) (fun i=>p.length - i) 0 ?_ (Nat.zero_le _) ?_
 ·exact Weak.same (by simp -dsimp) (by simp -dsimp) (by first|rfl|(simp [zj,Av.ids,Ow.ids,Cl.ids,Go.Smd.keys];done))
 ·rintro i hi K hK
  by_cases hlt:i<p.length
  ·have hw:IntKind.wrap .i64 ((i:Int)+1)=((i+1:Nat):Int):=by rw[zy]<;>omega
   have hb:(min i p.length+1)*168≤140737488351232:=by omega
   have h1:(p.map (evD∘Zm)).take (i+1)=(p.map (evD∘Zm)).take i++ [evD (Zm p[i])]:=by
    rw[List.take_succ_eq_append_getElem (by simpa using hlt)];simp
   have hq:=hf _ (List.getElem_mem hlt)
   have hc:=znV p[i] hq.1 hq.2
   (repeat' (first|(with_reducible first|refine zl (fun _=>?_) (fun _=>?_)|refine zk (fun _=>?_) (fun _=>?_)|refine zt (hc) (by first|rfl|(simp -dsimp [b1,hlt,hw,hb,zf];done)) ?_|refine zm zd (by kernel_rfl) ?_|exact zc rfl)|(simp -dsimp [b1,hlt,hw,hb,zf])));(all_goals try with_reducible refine zc ?_)
   refine hK _ (i+1) ?_ (by omega) (by omega)
   rw[h1]
   exact Weak.same (by simp -dsimp) (by simp -dsimp) (by first|rfl|(simp [zj,Av.ids,Ow.ids,Cl.ids,Go.Smd.keys];done))
  ·(repeat' (first|(with_reducible first|refine zl (fun _=>?_) (fun _=>?_)|refine zk (fun _=>?_) (fun _=>?_)|refine zm zd (by kernel_rfl) ?_|exact zc rfl)|(simp -dsimp [hlt])));(all_goals try with_reducible refine zc ?_)
   rw[List.take_of_length_le (by simp;omega)]
   have:i=p.length:=by omega
   exact ⟨by rw[this],by rw[this]⟩
theorem znZ (n:Nat)(p:List LE)(hf:∀q∈p,zas q∧zek q)(hl:p.length*168≤140737488351232):
  AProc prog 147 [.c (.gs 1000000000 n)] [(1000000000,.arr n tPE (p.map leD))] (fun r own'=>r= .c (.d (ZT (p.map Zm)))∧own'= [(1000000000,.arr n tPE (p.map leD))]):=
 (znY n p hf hl).frzr [6] rfl (by
  simp [zcU,zgx,zcT,zjd,ze,ZT])
end Go.Smd
end
section
namespace Go.Smd
open Go.RowKit
section
variable {P:Program} {N:Nat}
theorem zfV {full base:List (Nat×Av)}{own own':List (Nat×Ow)}{o:Oper}{f:FuncId}{xs args:List Av}{Ts:List TypeId}{ownA ownB:List (Nat×Ow)}{ρ:List (Nat×Nat)}{r0:Av}{d:Tmp}(t:Nat)(hp:ZC o.op=true)(hd:o.dst=some d)(hdk:Zk N o=true)
  (hc:zw P ⟨full++base,own⟩ o=some (f,xs,Ts)) (hx:Z5 P [] (ze own) xs Ts=args.map (Av.ren (ZM ρ t))) (ho:zcm ρ args ownA=true) (hh:zcb (ze own) (ZM ρ t) ownA) (hR:AProc P f args ownA fun r own'=>r=r0∧own'=ownB)
  (hb:ZQ ⟨[],own⟩ ρ t ownB=true) (h1:zcS (Ow.fix (ze (zZ ⟨[],own⟩ ρ t ownB))) (zZ ⟨[],own⟩ ρ t ownB)=own') (hv:(r0.ren (ZM ρ t)).fix (ze (zZ ⟨[],own⟩ ρ t ownB))=zi full base d)
  (hfix:∀p∈full++base,p.2.fix (ze (zZ ⟨[],own⟩ ρ t ownB))=p.2∨∃id∈p.2.ids,ze own id=none):Eff P N full base o own own':=fun σ e0 e1 e2 K hK=>by
 refine ⟨hdk,?_⟩
 rw[zd7 hp,zbu (zbY hp)]
 refine .inr (.sem fun N' w0 S0 β a w s hd'=>?_)
 have hsh:σ.h=ze own:=e0
 have hkk:∀i,zo σ.own i=zo own i:=fun i=>by
  have:ze σ.own i=ze own i:=congrFun e0 i
  cases hq:zo own i with
  |true=>obtain ⟨x,hx⟩:=zL.1 hq;exact zL.2 ⟨x,by rw[this,hx]⟩
  |false=>
   cases hq2:zo σ.own i with
   |false=>rfl
   |true=>obtain ⟨x,hx⟩:=zL.1 hq2;rw[this] at hx;rw[zL.2 ⟨x,hx⟩] at hq;cases hq
 have hbo:∀own',ZQ σ ρ t own'=ZQ ⟨[],own⟩ ρ t own':=fun own'=>by
  unfold ZQ
  simp only [hkk]
 have hfil:∀(p:Nat→Bool) (l:List (Nat×Ow)) (i:Nat),ze (zbs p l) i=if p i then ze l i else none:=fun p l i=>by
  induction l with
  |nil=>simp [zbs,ze]
  |cons q l ih=>
   obtain ⟨k,x⟩:=q
   simp only [zbs]
   cases hpk:p k with
   |true=>
    simp only [ze]
    by_cases e:k=i
    ·subst e;simp [hpk]
    ·simp only [if_neg e];exact ih
   |false=>
    simp only [ze]
    by_cases e:k=i
    ·subst e;rw[ih];simp [hpk]
    ·simp only [if_neg e];exact ih
 have hbh:∀own',ze (zZ σ ρ t own')=ze (zZ ⟨[],own⟩ ρ t own'):=fun own'=>by
  funext i
  unfold zZ
  rw[zaA,zaA,hfil,hfil]
  have:ze σ.own i=ze own i:=congrFun e0 i
  simp only [this]
 have hfx:∀t',(σ.tmp t').fix (ze (zZ ⟨[],own⟩ ρ t ownB))=σ.tmp t':=fun t'=>by
  have hl:∀{l:List (Nat×Av)},(∀p∈l,p∈full++base)→∀x,ze l t'=some x→σ.tmp t'=x→x.fix (ze (zZ ⟨[],own⟩ ρ t ownB))=x:=fun {l} hl x hx e=>by
   rcases hfix _ (hl _ (Zy hx)) with h|⟨id,h1,h2⟩
   ·exact h
   ·have h3:=s.tmp t'
    rw[e] at h3
    have h4:=h3.has id h1
    rw[hsh,h2] at h4
    cases h4
  rcases e2 t' with h|h<;>rw[h]
  ·unfold zi at h ⊢
   cases hq:ze full t' with
   |some x=>rw[hq] at h;exact hl (fun p hp=>List.mem_append_left _ hp) x hq h
   |none=>
    rw[hq] at h
    cases hq2:ze base t' with
    |some x=>rw[hq2] at h;exact hl (fun p hp=>List.mem_append_right _ hp) x hq2 h
    |none=>rfl
  ·cases hq2:ze base t' with
   |some x=>rw[hq2] at h;exact hl (fun p hp=>List.mem_append_right _ hp) x hq2 h
   |none=>rfl
 refine zlY s hd' (.proc (t:=t) (ρ:=ρ) (own0:=ownA) (args:=args) (by rw[zcc e1 hsh];exact hc) (by rw[hsh];exact hx) ho (by rw[hsh];exact hh) hR ?_)
 rintro r own'' ⟨rfl,rfl⟩
 refine ⟨by rw[hbo];exact hb,hK _ ?_ fun t'=>?_⟩
 ·rw[ZO]
  show ze (zcS (Ow.fix (ze (zZ σ ρ t own''))) (zZ σ ρ t own''))=ze own'
  rw[←h1]
  funext i
  simp only [zcv,zbL,hbh]
 ·rw[Zp,hbh,hv,hd]
  by_cases e:some d=some t'
  ·rw[if_pos e,if_pos e];cases e;rfl
  ·rw[if_neg e,if_neg e]
   have:(σ.back ρ t own'').tmp t'=(σ.tmp t').fix (ze (zZ σ ρ t own'')):=by
    unfold St.back St.tmp
    simp only [zcv,zbL,zaT]
    cases ze σ.tmps t'<;>rfl
   rw[this,hbh];exact hfx t'
end
end Go.Smd
end
section
namespace Go.Smd
open Go.RowKit Go.Proofs Go.Proofs.Tryz
abbrev tSP:TypeId:=22
abbrev zdx:TypeId:=32
noncomputable abbrev cE (e:EV):EV:=Zm (z9 e)
theorem zt8 {p:List EV}(hp:∀e∈p,GoodE e):∀q∈p.map z9,zas q∧zek q:=fun q hq=>by
 obtain ⟨e,he,rfl⟩:=List.mem_map.1 hq
 have:=hp e he
 exact ⟨this.f.le,zsg this.s.hl⟩
theorem zvW (n ver:Nat)(R:List (List D))(p:List EV)(hp:∀e∈p,GoodE e)(hl:p.length*168≤140737488351232)(hb:(R.length+1)*24≤140737488351232):
  AProc prog 146 [.c (.gs 1000000002 n),.c (.own 1000000000 0)] [(1000000000,.cells [.gs 1000000001 ver] zdx),(1000000001,.arr ver tSP R),(1000000002,.arr n tPE (p.map eD))]
   (fun r own'=>r= .tup []∧own'= [(6,.arr 0 tSP [[ZT (p.map cE)]]),(1000000000,.cells [.gs 1000000001 (ver+1)] zdx),(1000000001,.arr (ver+1) tSP (R++ [[ZT (p.map cE)]])),(1000000002,.arr n tPE (p.map eD))]):=by
 have hc:=znZ n (p.map z9) (zt8 hp) (by simpa using hl)
 simp only [List.map_map] at hc
 have e1:p.map (leD∘z9)=p.map eD:=rfl
 have e2:p.map (Zm∘z9)=p.map cE:=rfl
 rw[e1,e2] at hc
 generalize p.map cE=q at hc ⊢
 generalize p.map eD=X at hc ⊢
 refine zap [] func146 (by kernel_rfl) rfl ntmps146 results146 (Nat.le_of_ble_eq_true (by kernel_rfl)) ?_;intro hok w0 S0
 (repeat' (first|(with_reducible first|refine zl (fun _=>?_) (fun _=>?_)|refine zk (fun _=>?_) (fun _=>?_)|refine zm zd (by kernel_rfl) ?_|exact zc rfl)|(simp -dsimp)));(all_goals try with_reducible refine zc ?_)
 refine zdH ?_
 refine zaF zd [[],[],[1],[1,2],[0,1,2,3],[0,1,2,3,4]] [0,1,2,3,4,5] [2,3,4,5] [([],⟨[(3,?m3u1),(4,?m4u1),(5,?m5u1),(6,?m6u1),(7,?m7u1)],?bu1,?o0u1⟩),([2],⟨[(3,?m3u1),(4,?m4u1),(5,?m5u1),(6,?m6u1),(7,?m7u1)],?bu1,?o1u1⟩),([2,3],⟨[(3,?m3u1),(4,?m4u1),(5,?m5u1),(6,?m6u1),(7,?m7u1)],?bu1,?o2u1⟩),([2,3,4],⟨[(3,?m3u1),(4,?m4u1),(5,?m5u1),(6,?m6u1),(7,?m7u1)],?bu1,?o3u1⟩),([2,3,4,5],⟨[(3,?m3u1),(4,?m4u1),(5,?m5u1),(6,?m6u1),(7,?m7u1)],?bu1,?o4u1⟩)] ?hoku1 rfl rfl ?hbu1 ?hou1 ?hstu1 ?hku1
 case' hbu1=>rfl
 case' hou1=>rfl
 case' hstu1=>refine ⟨⟨?v0u1,?s0u1⟩,⟨⟨?v1u1,?s1u1⟩,⟨⟨?v2u1,?s2u1⟩,⟨⟨?v3u1,?s3u1⟩,⟨⟨?v4u1,?s4u1⟩,True.intro⟩⟩⟩⟩⟩
 case v0u1=>
  iterate 2 refine ⟨.inr ⟨_,rfl,zA (ZZ rfl rfl (by simp -dsimp [zi,zf,hb]<;>with_reducible rfl))⟩,?_⟩
  iterate 4 refine ⟨.inl (by kernel_rfl),?_⟩
  exact True.intro
 case' s0u1=>
  refine ⟨.inr ⟨_,_,rfl,rfl,Zv (zfV (d:=5) (ρ:=[(1000000000,1000000002)]) (t:=2) (hR:=hc) (hp:=rfl) (hd:=rfl) (hdk:=rfl) (hc:=by simp -dsimp [zi,zf,hb]<;>(first|done|rfl|exact ⟨rfl,rfl⟩|exact ⟨rfl,rfl,rfl⟩)) (hx:=by simp -dsimp [zi,zf,hb]<;>with_reducible rfl) (ho:=by simp -dsimp [zi,zf,hb]) (hh:=by simp -dsimp [zi,zf,hb]) (hb:=by simp -dsimp [zi,zf,hb]) (h1:=by simp -dsimp [zi,zf,hb]<;>with_reducible rfl) (hv:=by simp -dsimp [zi,zf,hb]<;>with_reducible rfl) (hfix:= ?hf2k0u1)) (by simp -dsimp [zi,ZK,zbQ,zf,hb]<;>with_reducible rfl)⟩,?_⟩
  rotate_left
  iterate 3 refine ⟨.inl (by kernel_rfl),?_⟩
  exact True.intro
 case v1u1=>
  refine ⟨.inr ⟨_,rfl,zA (ZZ rfl rfl (by simp -dsimp [zi,zf,hb]<;>with_reducible rfl))⟩,?_⟩
  iterate 5 refine ⟨.inl (by kernel_rfl),?_⟩
  exact True.intro
 case s1u1=>
  refine ⟨.inl (by kernel_rfl),?_⟩
  refine ⟨.inr ⟨_,_,rfl,rfl,Zv (zdI (hdk:=rfl) (hW:=rfl) (hq:=by simp -dsimp [zi,zf,hb]<;>(first|done|rfl|exact ⟨rfl,rfl⟩|exact ⟨rfl,rfl,rfl⟩)) (hoo:=rfl) (hv:=by simp -dsimp [zi,zf,hb]<;>with_reducible rfl)) (by simp -dsimp [zi,ZK,zbQ,zf,hb]<;>with_reducible rfl)⟩,?_⟩
  iterate 2 refine ⟨.inl (by kernel_rfl),?_⟩
  exact True.intro
 case v2u1=>
  refine ⟨.inr ⟨_,rfl,zA (ZZ rfl rfl (by simp -dsimp [zi,zf,hb]<;>with_reducible rfl))⟩,?_⟩
  iterate 5 refine ⟨.inl (by kernel_rfl),?_⟩
  exact True.intro
 case s2u1=>
  iterate 2 refine ⟨.inl (by kernel_rfl),?_⟩
  refine ⟨.inr ⟨_,_,rfl,rfl,Zv (zdI (hdk:=rfl) (hW:=rfl) (hq:=by simp -dsimp [zi,zf,hb]<;>(first|done|rfl|exact ⟨rfl,rfl⟩|exact ⟨rfl,rfl,rfl⟩)) (hoo:=rfl) (hv:=by simp -dsimp [zi,zf,hb]<;>with_reducible rfl)) (by simp -dsimp [zi,ZK,zbQ,zf,hb]<;>with_reducible rfl)⟩,?_⟩
  refine ⟨.inl (by kernel_rfl),?_⟩
  exact True.intro
 case v3u1=>
  iterate 6 refine ⟨.inl (by kernel_rfl),?_⟩
  exact True.intro
 case s3u1=>
  iterate 3 refine ⟨.inl (by kernel_rfl),?_⟩
  refine ⟨.inr ⟨_,_,rfl,rfl,Zv (zdI (hdk:=rfl) (hW:=rfl) (hq:=by simp -dsimp [zi,zf,hb]<;>(first|done|rfl|exact ⟨rfl,rfl⟩|exact ⟨rfl,rfl,rfl⟩)) (hoo:=rfl) (hv:=by simp -dsimp [zi,zf,hb]<;>with_reducible rfl)) (by simp -dsimp [zi,ZK,zbQ,zf,hb]<;>with_reducible rfl)⟩,?_⟩
  exact True.intro
 case v4u1=>
  iterate 6 refine ⟨.inl (by kernel_rfl),?_⟩
  exact True.intro
 case s4u1=>
  iterate 4 refine ⟨.inl (by kernel_rfl),?_⟩
  exact True.intro
 case s0u1=>simp -dsimp [zi,Av.ids,Cl.ids,zf,hb]
 case hoku1=>kernel_rfl
 refine ⟨rfl,?_⟩
 (repeat' (first|(with_reducible first|refine zl (fun _=>?_) (fun _=>?_)|refine zk (fun _=>?_) (fun _=>?_)|refine zm zd (by kernel_rfl) ?_|exact zc rfl)|(simp -dsimp)));(all_goals try with_reducible refine zc ?_)
 exact ⟨rfl,rfl⟩
end Go.Smd
end
section
namespace Go.Smd
open Go.RowKit
theorem Build.pop {α:Type}{R:World→(Nat→Prop)→α→List Value→Prop}{e size:Nat}{S T:Nat→Prop}{w:World}{g cap:Nat}{xs:List α}{y:α}(h:Build R e size S T w (.slice (some ⟨g,0,none⟩) (xs.length+1) cap) (xs++ [y])):Build R e size S T w (.slice (some ⟨g,0,none⟩) xs.length cap) xs:=by
 obtain ⟨cs,hrow,hS,hel⟩:=h
 have hxl:(xs++ [y]).length=xs.length+1:=by simp
 have hlen:xs.length*size≤cs.length:=by rw[hrow.1,hxl];exact Nat.mul_le_mul_right _ (by omega)
 refine ⟨cs.take (xs.length*size),⟨by rw[List.length_take];omega,?_⟩,fun k hk=>hS k hk,by rw[List.length_take];omega,fun j x hj=>?_⟩
 ·rcases hrow.2 with ⟨h0,_⟩|⟨g',cap',cur,h5,h6,h7,h8,h9,h10,h11⟩
  ·cases h0
  ·injection h5 with e1 e2 e3
   injection e1 with e1
   injection e1 with e1
   subst e1;subst e3
   refine .inr ⟨g,cap,cur,rfl,h6,h7,by omega,h9,h10,?_⟩
   rw[←h11,List.take_take,hxl]
   congr 1
   exact (Nat.min_eq_left (Nat.mul_le_mul_right _ (by omega))).symm
 ·have hjl:=(List.getElem?_eq_some_iff.1 hj).1
  have:=hel.2 j x (by rw[List.getElem?_append_left hjl];exact hj)
  have e1:((cs.take (xs.length*size)).drop (j*size)).take size=(cs.drop (j*size)).take size:=by
   have hm:j*size+size≤xs.length*size:=by rw[←Nat.succ_mul];exact Nat.mul_le_mul_right _ hjl
   apply List.ext_getElem?
   intro p
   simp only [List.getElem?_take,List.getElem?_drop]
   split
   ·rw[if_pos (by omega)]
   ·rfl
  rw[e1]
  exact this
section
variable {P:Program} {N:Nat} {w0:World} {S0:Env} {β:Nat→Value} {σ:St} {a:Act} {w:World}
theorem zcZ {v u:Value}{E:TypeId}{xs:List (List D)}{ys:List Cl}{b:Nat}:occ v (.clo (.pin u E xs) ys) b↔bk v=some b:=by simp [occ,Ow.fp,Hd.fp]
theorem Sim.ownHas (s:Sim P N w0 S0 β σ a w){i id:Nat}{o:Ow}(hi:σ.h i=some o)(hid:id∈o.ids):(σ.h id).isSome=true:=by
 have h:=s.own i o hi
 cases o with
 |cells xs T=>
  obtain ⟨b,us,_,_,h3⟩:=h
  obtain ⟨x,hx,hq⟩:=List.mem_flatMap.1 hid
  obtain ⟨j,hj⟩:=List.getElem?_of_mem hx
  obtain ⟨u,_,hr⟩:=h3.at hj
  exact hr.has id hq
 |arr k E xs=>cases hid
 |clo f xs=>
  obtain ⟨us,_,h3⟩:=h
  obtain ⟨x,hx,hq⟩:=List.mem_flatMap.1 hid
  obtain ⟨j,hj⟩:=List.getElem?_of_mem hx
  obtain ⟨u,_,hr⟩:=h3.at hj
  exact hr.has id hq
theorem Sim.pinVal (s:Sim P N w0 S0 β σ a w){q:Nat}{v:Value}{E:TypeId}{xs:List (List D)}(hid:σ.h q=some (.clo (.pin v E xs) [])):β q=v:=by
 obtain ⟨us,⟨_,h,_⟩,_⟩:=s.own q _ hid
 exact h
theorem Sim.pinArr (s:Sim P N w0 S0 β σ a w){q d n:Nat}{v:Value}{E:TypeId}{xs:List (List D)}(hid:σ.h q=some (.clo (.pin v E xs) []))(hd:d=q∨σ.h d=none)(ht:∀t,q∉(σ.tmp t).ids)(hqo:∀i o,σ.h i=some o→q∉o.ids)(hk:∀o0,S0.h0 d=some o0→zaz o0 (S0.β0 d) (.arr n E xs) v):
  Sim P N w0 S0 (fun i=>if i=d then v else β i) ((σ.del q).new d (.arr n E xs)) a w:=
 s.reown hid hd (fun b=>by rw[zac,zcZ,s.pinVal hid]) ht hqo hk (fun β' h' r=>by
  obtain ⟨us,⟨_,h1,h2⟩,_⟩:=r
  rw[←h1];exact h2) fun S S' β' h' hS r=>⟨r.1.frame (zu P) (fun _ _=>rfl) (fun _ _=>rfl) (fun _ h=>h) hS,r.2⟩
theorem Sim.arrPin (s:Sim P N w0 S0 β σ a w){q d n:Nat}{v:Value}{E:TypeId}{xs:List (List D)}(hid:σ.h q=some (.arr n E xs))(hv:β q=v)(hd:d=q∨σ.h d=none)(ht:∀t,q∉(σ.tmp t).ids)(hqo:∀i o,σ.h i=some o→q∉o.ids)(hk:∀o0,S0.h0 d=some o0→zaz o0 (S0.β0 d) (.clo (.pin v E xs) []) v):
  Sim P N w0 S0 (fun i=>if i=d then v else β i) ((σ.del q).new d (.clo (.pin v E xs) [])) a w:=
 s.reown hid hd (fun b=>by rw[zac,zcZ,hv]) ht hqo hk (fun β' h' r=>⟨[],⟨rfl,rfl,by rw[←hv];exact r⟩,.nil⟩) fun S S' β' h' hS r=>by
  obtain ⟨us,h1,h2⟩:=r
  obtain ⟨rfl,_⟩:=id h1
  exact ⟨[],h1.mono hS,.nil⟩
theorem Sim.pinPop (s:Sim P N w0 S0 β σ a w){q d g cap:Nat}{E:TypeId}{xs:List (List D)}{y:List D}(hid:σ.h q=some (.clo (.pin (.slice (some ⟨g,0,none⟩) (xs.length+1) cap) E (xs++ [y])) []))(hd:d=q∨σ.h d=none)(ht:∀t,q∉(σ.tmp t).ids)(hqo:∀i o,σ.h i=some o→q∉o.ids)
  (hk:∀o0,S0.h0 d=some o0→zaz o0 (S0.β0 d) (.clo (.pin (.slice (some ⟨g,0,none⟩) xs.length cap) E xs) []) (.slice (some ⟨g,0,none⟩) xs.length cap)):
  Sim P N w0 S0 (fun i=>if i=d then .slice (some ⟨g,0,none⟩) xs.length cap else β i) ((σ.del q).new d (.clo (.pin (.slice (some ⟨g,0,none⟩) xs.length cap) E xs) [])) a w:=
 s.reown hid hd (fun b=>by rw[zcZ,zcZ,s.pinVal hid];exact Iff.rfl) ht hqo hk (fun β' h' r=>by
  obtain ⟨us,⟨_,h1,h2,h3,h4⟩,_⟩:=r
  rw[h1] at h2
  refine ⟨[],⟨rfl,rfl,h2.pop,?_,fun x hx=>h4 x (by simp [hx])⟩,.nil⟩
  rw[List.length_append,List.length_singleton,Nat.add_mul] at h3
  omega) fun S S' β' h' hS r=>by
  obtain ⟨us,h1,h2⟩:=r
  obtain ⟨rfl,_⟩:=id h1
  exact ⟨[],h1.mono hS,.nil⟩
end
section
variable {P:Program} {N:Nat} {w0:World} {S0:Env} {β:Nat→Value} {σ:St} {a:Act} {w:World}
theorem Sim.fresh (s:Sim P N w0 S0 β σ a w){d:Nat}(hdn:σ.h d=none):(∀t,d∉(σ.tmp t).ids)∧∀i o,σ.h i=some o→d∉o.ids:=
 ⟨fun t h=>(by have:=(s.tmp t).has d h;rw[hdn] at this;cases this),fun i o hi h=>(by have:=s.ownHas hi h;rw[hdn] at this;cases this)⟩
theorem Sim.pinSd (s:Sim P N w0 S0 β σ a w){q d n:Nat}{v:Value}{E:TypeId}{xs:List (List D)}(hid:σ.h q=some (.clo (.pin v E xs) [])):∀b,Sd w0 S0 β σ.h w b→Sd w0 S0 (fun i=>if i=d then v else β i) ((σ.del q).new d (.arr n E xs)).h w b:=fun b hb=>⟨hb.1,hb.2.1,fun i o hi hc=>by
 rw[zq] at hi
 by_cases e:i=d
 ·simp only [e,if_true] at hi hc
  cases hi
  exact hb.2.2 q _ hid (zcZ.2 (by rw[s.pinVal hid];exact zac.1 hc))
 ·simp only [e,if_false,zep] at hi hc
  by_cases e2:i=q
  ·simp only [e2,if_true] at hi;cases hi
  ·simp only [e2,if_false] at hi
   exact hb.2.2 i o hi hc⟩
theorem Sim.pushRoom (s:Sim P N w0 S0 β σ a w){q d n g cap c:Nat}{T ty E:TypeId}{xs:List (List D)}{y:List D}{ds:List Value}{ad:Addr}(hT:P.elemT T=some E)(hE:P.appOk E=true)(hid:σ.h q=some (.clo (.pin (.slice (some ⟨g,0,none⟩) xs.length cap) E xs) []))(hroom:xs.length+1≤cap)
  (hd:d<zed) (hdn:σ.h d=none) (hn:n<zed) (hnn:σ.h n=none) (hnd:n≠d) (hb:(xs.length+1)*P.bytesOf E≤140737488351232) (hy:RDs P w (Sd w0 S0 β σ.h w) y ds) (hyl:y.length=P.cellsOf E) (hc:∀j u,ds[j]? =some u→w.cell? (ad.add j)=some u)
  (ht:∀t,q∉(σ.tmp t).ids) (hqo:∀i o,σ.h i=some o→q∉o.ids):
  ∃w' β',(Builtin.append_ #[T,T] ty #[.slice (some ⟨g,0,none⟩) xs.length cap,.slice (some ad) 1 c]).run P w= .ok (.slice (some ⟨g,0,none⟩) (xs.length+1) cap) w'∧
   Sim P N w0 S0 β' ((σ.del q).new d (.clo (.pin (.slice (some ⟨g,0,none⟩) (xs.length+1) cap) E (xs++ [y])) [])) a w':=by
 have hdz:∀o0,S0.h0 d=some o0→False:=fun o0 h=>by have:=(s.kept d o0 h).1;omega
 obtain ⟨nd,nod⟩:=s.fresh hdn
 have s1:=s.pinArr (d:=d) (n:=0) hid (.inr hdn) ht hqo fun o0 h=>(hdz o0 h).elim
 have hS1:=s.pinSd (d:=d) (n:=0) hid
 have h1:((σ.del q).new d (.arr 0 E xs)).h d=some (.arr 0 E xs):=by rw[zq];simp
 have hn1:((σ.del q).new d (.arr 0 E xs)).h n=none:=by rw[zq];simp [hnd,zep,hnn]
 obtain ⟨v',w',hrun,hcase⟩:=s1.push (ty:=ty) (c:=c) hT hE h1 hn hn1 hb (All2.imp hy fun x u _ r=>RepD.mono r hS1) hyl hc
 simp only [if_true] at hrun hcase
 rcases hcase with ⟨g',cap',e1,e2,e3,s2⟩|⟨h,_⟩
 ·injection e1 with e4 e5 e6
  injection e4 with e4
  injection e4 with e4
  subst e4;subst e6;subst e2
  have s3:=s2.arrPin (q:=d) (d:=d) (n:=0+1) (E:=E) (xs:=xs++ [y]) (v:=.slice (some ⟨g,0,none⟩) (xs.length+1) cap) (by rw[zq];simp) (by simp) (.inl rfl) nd (fun i o hi=>by
   rw[zq] at hi
   by_cases e:i=d
   ·simp only [e,if_true] at hi;cases hi;exact List.not_mem_nil
   ·simp only [e,if_false,zq,zep] at hi
    by_cases e2:i=q
    ·simp only [e2,if_true] at hi;cases hi
    ·simp only [e2,if_false] at hi;exact nod i o hi) fun o0 h=>(hdz o0 h).elim
  refine ⟨w',fun i=>if i=d then .slice (some ⟨g,0,none⟩) (xs.length+1) cap else if i=d then .slice (some ⟨g,0,none⟩) (xs.length+1) cap else if i=d then .slice (some ⟨g,0,none⟩) xs.length cap else β i,hrun,?_⟩
  refine Sim.eqv ?_ s3
  refine ⟨fun _=>rfl,?_⟩
  funext i
  simp only [zq,zep]
  by_cases e:i=d<;>simp [e]
 ·have:=h g cap rfl
  omega
theorem Sim.pushFull (s:Sim P N w0 S0 β σ a w){q d n c:Nat}{v:Value}{T ty E:TypeId}{xs:List (List D)}{y:List D}{ds:List Value}{ad:Addr}(hT:P.elemT T=some E)(hE:P.appOk E=true)(hid:σ.h q=some (.clo (.pin v E xs) []))(hfull:∀g cap,v= .slice (some ⟨g,0,none⟩) xs.length cap→cap<xs.length+1)
  (hd:d<zed) (hdn:σ.h d=none) (hn:n<zed) (hnn:σ.h n=none) (hnd:n≠d) (hb:(xs.length+1)*P.bytesOf E≤140737488351232) (hy:RDs P w (Sd w0 S0 β σ.h w) y ds) (hyl:y.length=P.cellsOf E) (hc:∀j u,ds[j]? =some u→w.cell? (ad.add j)=some u)
  (ht:∀t,q∉(σ.tmp t).ids) (hqo:∀i o,σ.h i=some o→q∉o.ids):
  ∃v' w' β',(Builtin.append_ #[T,T] ty #[v,.slice (some ad) 1 c]).run P w= .ok v' w'∧v'.oneCell'=true∧β' d=v'∧Sim P N w0 S0 β' (σ.new d (.arr 1 E (xs++ [y]))) a w':=by
 have hnz:∀o0,S0.h0 n=some o0→False:=fun o0 h=>by have:=(s.kept n o0 h).1;omega
 have hqn:q≠n:=fun e=>by rw[e,hnn] at hid;cases hid
 have hqd:q≠d:=fun e=>by rw[e,hdn] at hid;cases hid
 obtain ⟨nn,non⟩:=s.fresh hnn
 have s1:=s.pinArr (d:=n) (n:=0) hid (.inr hnn) ht hqo fun o0 h=>(hnz o0 h).elim
 have hS1:=s.pinSd (d:=n) (n:=0) hid
 have h1:((σ.del q).new n (.arr 0 E xs)).h n=some (.arr 0 E xs):=by rw[zq];simp
 have hd1:((σ.del q).new n (.arr 0 E xs)).h d=none:=by rw[zq];simp [Ne.symm hnd,zep,hdn]
 obtain ⟨v',w',hrun,hcase⟩:=s1.push (ty:=ty) (c:=c) hT hE h1 hd hd1 hb (All2.imp hy fun x u _ r=>RepD.mono r hS1) hyl hc
 simp only [if_true] at hrun hcase
 rcases hcase with ⟨g',cap',e1,e2,e3,s2⟩|⟨_,ho,s2⟩
 ·have:=hfull g' cap' e1
  omega
 ·have s3:=s2.arrPin (q:=n) (d:=q) (n:=0) (E:=E) (xs:=xs) (v:=v) (by rw[zq];simp [hnd,h1]) (by simp [hnd]) (.inr (by rw[zq];simp [hqd,hqn,zq,zep])) nn (fun i o hi=>by
   rw[zq] at hi
   by_cases e:i=d
   ·simp only [e,if_true] at hi;cases hi;exact List.not_mem_nil
   ·simp only [e,if_false,zq,zep] at hi
    by_cases e3:i=n
    ·simp only [e3,if_true] at hi;cases hi;exact List.not_mem_nil
    ·simp only [e3,if_false] at hi
     by_cases e2:i=q
     ·simp only [e2,if_true] at hi;cases hi
     ·simp only [e2,if_false] at hi;exact non i o hi) fun o0 h=>by
   have:=(s.kept q o0 h).2 _ hid
   rw[s.pinVal hid] at this
   exact this
  refine ⟨v',w',(fun i=>if i=q then v else if i=d then v' else if i=n then v else β i),hrun,ho,by simp [Ne.symm hqd],?_⟩
  ·refine Sim.eqv ?_ s3
   refine ⟨fun _=>rfl,?_⟩
   funext i
   simp only [zq,zep]
   by_cases e:i=q
   ·subst e;simp [hqd,hid]
   ·by_cases e2:i=n
    ·subst e2;simp [e,hnd,hnn]
    ·simp [e,e2]
end
end Go.Smd
end
