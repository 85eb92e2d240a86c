/- Part 13. -/
import Derived.Test.YtdgnolbdcmgfoaaGreatQD12
import Derived.Test.YtdgnolbdcmgfoaaGreatQD07
import Derived.Test.YtdgnolbdcmgfoaaGreatQD11
import Derived.Test.YtdgnolbdcmgfoaaGreatQD09
set_option linter.unusedVariables false
set_option linter.unusedSimpArgs false
set_option maxRecDepth 100000
set_option maxHeartbeats 8000000
section
namespace Go.Smd
open Go.RowKit
section
variable {P:Program} {N:Nat} {w0:World} {S0:Env} {Q:Exit→St→Prop} {sc:Sch} {n:Nat} {k:List Fr} {σ:St} {o:Oper} {K:St→Prop} {t:Tg (σ,o,K)} {cc:Option (FuncId×List Av×List Nat)}
theorem zkW {f:FuncId}{args:List Av}{F:List Nat}{R:Av→Prop}(hR:ACalls P f args R)(ha:args.all Av.isD=true)(h:∀r,R r→okA P r→K ((σ.give P F).put o.dst r)):Nd P σ o K t (some (f,args,F)):=fun hc=>by
 refine .inl ?_
 unfold zbD
 rw[←hc]
 exact ⟨ha,R,hR,h⟩
theorem zl {f:FuncId}{args:List Av}{F:List Nat}{g:Av}(hR:ACalls P f args fun r=>r=g)(ha:args.all Av.isD=true)(h:K ((σ.give P F).put o.dst g)):Nd P σ o K t (some (f,args,F)):=
 zkW hR ha fun r hr _=>by subst hr;exact h
theorem zxX {f:FuncId}{args:List Av}{F:List Nat}{R:Av→Prop}(hR:ACalls P f args R)(ha:args.all Av.isD=true)(hp:∀r,R r→r.plain=true)(h:∀r,R r→okA P r→K (σ.put o.dst r)):Nd P σ o K t (some (f,args,F)):=fun hc=>.inr (.lend hc.symm ha hR hp h)
theorem zwt {f:FuncId}{args:List Av}{F:List Nat}{g:Av}(hR:ACalls P f args fun r=>r=g)(ha:args.all Av.isD=true)(hp:g.plain=true)(h:K (σ.put o.dst g)):Nd P σ o K t (some (f,args,F)):=
 zxX hR ha (fun r hr=>by subst hr;exact hp) fun r hr _=>by subst hr;exact h
theorem zwu {f:FuncId}{xs args:List Av}{Ts:List TypeId}{own0:List (Nat×Ow)}{ρ:List (Nat×Nat)}{R:Av→List (Nat×Ow)→Prop}(u:Nat)(hR:AProc P f args own0 R)(hc:zy P σ o=some (f,xs,Ts))(hx:ZY P [] σ.h xs Ts=args.map (Av.ren (ZC ρ u)))(ho:zce ρ args own0=true)(hh:zb2 σ.h (ZC ρ u) own0)
  (h:∀r own',R r own'→ZI σ ρ u own'=true∧K ((σ.back ρ u own').put o.dst ((r.ren (ZC ρ u)).fix (zd (zT σ ρ u own'))))):Nd P σ o K t cc:=fun _=>.inr (.proc hc hx ho hh hR h)
theorem zcH {f:FuncId}{xs args:List Av}{Ts:List TypeId}{own0 ownB:List (Nat×Ow)}{ρ:List (Nat×Nat)}{r0:Av}(u:Nat)(hR:AProc P f args own0 fun r own'=>r=r0∧own'=ownB)(hc:zy P σ o=some (f,xs,Ts))(hx:ZY P [] σ.h xs Ts=args.map (Av.ren (ZC ρ u)))(ho:zce ρ args own0=true)(hh:zb2 σ.h (ZC ρ u) own0)
  (hb:ZI σ ρ u ownB=true) (h:K ((σ.back ρ u ownB).put o.dst ((r0.ren (ZC ρ u)).fix (zd (zT σ ρ u ownB))))):Nd P σ o K t cc:=
 zwu u hR hc hx ho hh fun r own' hr=>by obtain ⟨rfl,rfl⟩:=hr;exact ⟨hb,h⟩
theorem zl4 {X:Type}{f:FuncId}{xs args:List Av}{Ts:List TypeId}{own0:List (Nat×Ow)}{ownB:X→List (Nat×Ow)}{ρ:List (Nat×Nat)}{r0:X→Av}{q:X→Prop}(u:Nat)(hR:AProc P f args own0 fun r own'=>∃x,q x∧r=r0 x∧own'=ownB x)(hc:zy P σ o=some (f,xs,Ts))(hx:ZY P [] σ.h xs Ts=args.map (Av.ren (ZC ρ u)))(ho:zce ρ args own0=true)(hh:zb2 σ.h (ZC ρ u) own0)
  (hb:∀x,q x→ZI σ ρ u (ownB x)=true) (h:∀x,q x→K ((σ.back ρ u (ownB x)).put o.dst (((r0 x).ren (ZC ρ u)).fix (zd (zT σ ρ u (ownB x)))))):Nd P σ o K t cc:=
 zwu u hR hc hx ho hh fun r own' hr=>by obtain ⟨x,hq,rfl,rfl⟩:=hr;exact ⟨hb x hq,h x hq⟩
def BkR (σ:St)(d:Option Tmp)(K:St→Prop)(_:Tg (σ,d,K))(r:Av)(own':List (Nat×Ow)):Prop:=ZI σ (inR σ.own) (d.getD 0) own'=true∧K ((σ.back (inR σ.own) (d.getD 0) own').put d ((r.ren (ZC (inR σ.own) (d.getD 0))).fix (zd (zT σ (inR σ.own) (d.getD 0) own'))))
def BkX (P:Program)(rs:List ResultVar)(σ:St)(d:Option Tmp)(K:St→Prop):Exit→St→Prop
 | .normal,σ'| .ret,σ'=>Ov (zdx P σ' rs) (fun r=>BkR σ d K () r (zZ σ'.own)) False ()
 |_,_=>False
theorem zwv {rs:List ResultVar}{d:Option Tmp}{tl:List (Nat×Av)}{hl:List (Nat×Ow)}:BkX P rs σ d K .normal ⟨tl,hl⟩=Ov (zdx P ⟨tl,hl⟩ rs) (fun r=>BkR σ d K () r (zZ hl)) False ():=_root_.id rfl
theorem zww {rs:List ResultVar}{d:Option Tmp}{tl:List (Nat×Av)}{hl:List (Nat×Ow)}:BkX P rs σ d K .ret ⟨tl,hl⟩=Ov (zdx P ⟨tl,hl⟩ rs) (fun r=>BkR σ d K () r (zZ hl)) False ():=_root_.id rfl
theorem ztz {q:FuncId×List Av×List TypeId}(hc:zy P σ o=some q):Ze P σ o=none:=by
 obtain ⟨dst,op,ty,pos,af,g⟩:=o
 cases op<;>(try (cases hc;done))
 rename_i cl
 obtain ⟨ce,xa,ts⟩:=cl
 cases ce<;>cases dst<;>first|rfl|cases hc
theorem zc6 {f:FuncId}{xs ys args:List Av}{Ts:List TypeId}{own0:List (Nat×Ow)}{fn:Func}{c:Code}{N':Nat}{rs:List ResultVar}(sc':Sch)(hc:zy P σ o=some (f,xs,Ts))(hA:ZY P [] σ.h xs Ts=ys)(hok:zhR ys σ.own=true)
  (hY:ys.map (Av.ren fun i=>i+zed)=args) (hO:inK σ.own=own0) (hf:P.funcs[f]? =some fn) (hn:(fn.name== "runtime.NumGoroutine")=false) (hb:fn.body=some c) (hN:fn.ntmps=N') (hrs:fn.results=rs.toArray) (hl:args.length≤N')
  (h:(∀x∈args,x.isD=true→okA P x)→∀w0 S0,ex P N' w0 S0 (BkX P rs σ o.dst K) sc' [.code c] () 100000 ⟨ZZ 0 args,own0⟩):Nd P σ o K t cc:=fun _=>by
 cases hw:Ze P σ o with
 |some σ'=>rw[ztz hc] at hw;cases hw
 |none=>
  have key:=zxR (P:=P) (N:=0) (ops:= #[]) (os:=[]) (K:=K) (d:=o.dst) rfl hw hc hA hok hY hO hf hn hb hN hrs hl fun hk w0 S0=>(zlW (h hk w0 S0)).mono fun e σ' q=>by
   have key:Ov (zdx P σ' rs) (fun r=>BkR σ o.dst K () r (zZ σ'.own)) False ()→zsR P rs (zqg P 0 #[] σ [] K o.dst) σ':=fun h=>by
    cases hr:zdx P σ' rs with
    |none=>rw[hr] at h;exact h.elim
    |some r=>rw[hr] at h;exact ⟨r,hr,h⟩
   cases e<;>first|exact key q|exact q.elim
  unfold VK at key
  rw[hw] at key
  exact key
theorem zbK {T:TypeId}{x:Operand}{d:Tmp}{m:List (ByteArray×Tree)}{ty:TypeId}{pos:String}{af:Array Edge}{g:Option (Nat×Bool)}{t:Tg (σ,(⟨some d,.range T x,ty,pos,af,g⟩:Oper),K)}(hx:σ.ev x= .c (.d (.mp m)))(hT:P.treeMap T=true)(hnd:(m.map (·.1)).Nodup)(hz:((σ.h d).isNone && decide (d<zed))=true)
  (h:K ((σ.new d (.clo (.it m (m.map (·.1)) none) [])).put (some d) (.c (.fn d)))):Nd P σ ⟨some d,.range T x,ty,pos,af,g⟩ K t cc:=fun _=>by
 simp only [Bool.and_eq_true,decide_eq_true_eq] at hz
 exact .inr (.range rfl rfl hx hT hnd hz h)
theorem zcq {x:Operand}{id:Nat}{m:List (ByteArray×Tree)}{left:List ByteArray}{cur:Option ByteArray}{d:Option Tmp}{ty:TypeId}{pos:String}{af:Array Edge}{g:Option (Nat×Bool)}{t:Tg (σ,(⟨d,.next x false,ty,pos,af,g⟩:Oper),K)}(hx:σ.ev x= .c (.fn id))(hid:σ.h id=some (.clo (.it m left cur) []))
  (h0:left= []→K (σ.put d (.tup [(false,[.d (.v (.bool false))])])))
  (h1:∀k,k∈left→k.size≤140737488351232→K ((σ.new id (.clo (.it m (left.filter fun x=>decide (x≠k)) (some k)) [])).put d (.tup [(false,[.d (.v (.bool true))]),(false,[.d (.v (.string k))]),(false,[.d (.tr ((zai m k).getD .nil))])]))):Nd P σ ⟨d,.next x false,ty,pos,af,g⟩ K t cc:=fun _=>.inr (.next rfl hx hid h0 h1)
theorem zbL {x:Operand}{id:Nat}{m:List (ByteArray×Tree)}{left:List ByteArray}{key:ByteArray}{d:Option Tmp}{ty:TypeId}{pos:String}{af:Array Edge}{g:Option (Nat×Bool)}{t:Tg (σ,(⟨d,.entry x,ty,pos,af,g⟩:Oper),K)}(hx:σ.ev x= .c (.fn id))(hid:σ.h id=some (.clo (.it m left (some key)) []))
  (h:K (σ.put d (.tup [(false,[.d (.v (.string key))]),(false,[.d (.tr ((zai m key).getD .nil))])]))):Nd P σ ⟨d,.entry x,ty,pos,af,g⟩ K t cc:=fun _=>.inr (.entry rfl hx hid h)
theorem zfP {x:Operand}{name:String}{args:Array Operand}{Ts:Array TypeId}{y:Av}{d:Option Tmp}{ty:TypeId}{pos:String}{af:Array Edge}{g:Option (Nat×Bool)}{t:Tg (σ,(⟨d,.defer ⟨.invoke x name,args,Ts⟩,ty,pos,af,g⟩:Oper),K)}(hx:σ.ev x=y)(hd:zmV P name y)(h:K (σ.put d .any)):Nd P σ ⟨d,.defer ⟨.invoke x name,args,Ts⟩,ty,pos,af,g⟩ K t cc:=fun _=>.inr (.defer rfl hx hd h)
theorem zkX {B:List Nat}{i:Nat}{t:Tg (B,i,σ,o,K)}{f:FuncId}{args:List Av}{F:List Nat}{R:Av→Prop}(hR:ACalls P f args R)(hp:Zu o.op=true)(hB:(B.contains i||(F.isEmpty && (zy P ⟨σ.tmps,[]⟩ o).isSome))=true)(ha:args.all Av.isD=true)(h:∀r,R r→okA P r→K ((σ.give P F).put o.dst r)):Nw P B i σ o K t (some (f,args,F)):=fun hc=>by
 refine ⟨?_,by unfold zbD;rw[←hc];exact ⟨ha,R,hR,h⟩⟩
 rcases (Bool.or_eq_true ..).mp hB with h1|h1
 ·exact .inl h1
 ·rw[Bool.and_eq_true] at h1
  have:F= []:=by simpa using h1.1
  subst this
  obtain ⟨⟨f',xs,Ts⟩,hq⟩:=Option.isSome_iff_exists.1 h1.2
  refine .inr ⟨hp,f',xs,Ts,hq,?_⟩
  have:=zcp σ.h hq (τ:=σ) fun _ _=>rfl
  unfold Zh at hc
  rw[this] at hc
  simp only [Option.map_some,Option.some.injEq,Prod.mk.injEq] at hc
  exact hc.2.2.symm
theorem zx {B:List Nat}{i:Nat}{t:Tg (B,i,σ,o,K)}{f:FuncId}{args:List Av}{F:List Nat}{g:Av}(hR:ACalls P f args fun r=>r=g)(hp:Zu o.op=true)(hB:(B.contains i||(F.isEmpty && (zy P ⟨σ.tmps,[]⟩ o).isSome))=true)(ha:args.all Av.isD=true)(h:K ((σ.give P F).put o.dst g)):Nw P B i σ o K t (some (f,args,F)):=
 zkX hR hp hB ha fun r hr _=>by subst hr;exact h
theorem zk {ops:List Oper}{B:List Nat}{is:List (Nat×List Nat)}{X:Prop}{t:Tg (ops,B,is,X)}(hm:P.follows .mixedOrders=true)(hok:zkO ops.toArray B is=true)(h:X):Dn P ops B is X t:=⟨⟨hm,hok⟩,h⟩
theorem zcB {i:Nat}{l:List Oper}{tl:List (Nat×Av)}{hl:List (Nat×Ow)}{t:Tg (P,N,w0,S0,Q,sc,k,l,n,tl,hl)}(h:AWp P N w0 S0 (.region i l.toArray true) (fun e σ=>e= .normal∧ex P N w0 S0 Q sc k () 100000 σ) ⟨tl,hl⟩):exD P N w0 S0 Q sc k i l n tl hl t none:=by
 refine (show AWp P N w0 S0 (.region i l.toArray true) (KQ P N w0 S0 Q k) ⟨tl,hl⟩ from h.mono fun e σ q=>?_)
 obtain ⟨rfl,q⟩:=q
 exact Z3 _ _ _ q
theorem zF {X:Type}{c:Code}{t:Tx P N w0 S0 Q sc (.code (.loop c)::k)}(inv:X→St)(ok:X→Prop)(μ:X→Nat)(x0:X)(h0:Weak P N w0 S0 σ (inv x0))(k0:ok x0)
  (round:∀x,ok x→∀K:St→Prop,(∀σ' x',Weak P N w0 S0 σ' (inv x')→ok x'→μ x'<μ x→K σ')→ex P N w0 S0 Q sc (.code c:: .lp K::k) () 100000 (inv x)):ex P N w0 S0 Q sc (.code (.loop c)::k) t (n+1) σ:=by
 show AWp P N w0 S0 (.loop c) (KQ P N w0 S0 Q k) σ
 refine zsQ inv ok μ x0 h0 k0 fun x hx K hK=>?_
 refine (show AWp P N w0 S0 c (KQ P N w0 S0 Q (.lp K::k)) (inv x) from Z3 100000 (.code c:: .lp K::k) (inv x) (round x hx K hK)).mono fun e σ q=>?_
 cases e<;>exact q
theorem zd6 {R:Av→Prop}{t:Tg R}{r:Av}(h:R r):zvf R t r:=h
theorem za {g:Av}{t:Tg fun r:Av=>r=g}{r:Av}(h:r=g):zvf (fun r=>r=g) t r:=h
end
end Go.Smd
end
section
namespace Go.Smd
open Go.RowKit Go.Proofs Go.Proofs.Tryz
@[simp] theorem zy3:prog.lay 2=some (1,false)∧ZP prog 2= [none]∧ZO prog 2=some false∧zu prog 2=some (.tup [(false,[.d (.v (.int .i64 0))]),(false,[.d (.v (.bool false))])]):=by and_intros<;>kernel_rfl
@[simp] theorem zy4:prog.lay 3=some (1,false)∧ZP prog 3= [none]∧ZB prog 3=some [.d (.v (.int .i64 0))]∧ZO prog 3=some false∧zu prog 3=some (.tup [(false,[.d (.v (.int .i64 0))]),(false,[.d (.v (.bool false))])]):=by and_intros<;>kernel_rfl
@[simp] theorem zy5:ZP prog 4= [none]∧ZO prog 4=some false∧zu prog 4=some (.tup [(false,[.d (.v (.bool false))]),(false,[.d (.v (.bool false))])]):=by and_intros<;>kernel_rfl
@[simp] theorem zy6:ZO prog 5=some false∧zu prog 5=some (.tup [(false,[.d (.v (.int .u8 0))]),(false,[.d (.v (.bool false))])]):=by and_intros<;>kernel_rfl
@[simp] theorem zy7:prog.lay 9=some (1,false)∧prog.cellsOf 9=1∧(prog.info? 9).isSome=true∧prog.bytesOf 9=16∧ZP prog 9= [none]∧ZB prog 9=some [.d (.v (.string ⟨#[]⟩))]∧ZO prog 9=some false∧zu prog 9=some (.tup [(false,[.d (.v (.string ⟨#[]⟩))]),(false,[.d (.v (.bool false))])])∧prog.appOk 9=true:=by and_intros<;>kernel_rfl
@[simp] theorem zyP:prog.lay 20=some (1,false)∧prog.cellsOf 20=1∧ZP prog 20= [none]∧ZO prog 20=some true:=by and_intros<;>kernel_rfl
@[simp] theorem zyQ:ZO prog 21=some false∧zu prog 21=some (.tup [(false,[.d (.v (.int .i32 0))]),(false,[.d (.v (.bool false))])]):=by and_intros<;>kernel_rfl
@[simp] theorem zyR:prog.lay 22=some (1,false)∧prog.cellsOf 22=1∧prog.bytesOf 22=24∧ZP prog 22= [some 29]∧ZB prog 22=some [.d (.v (.slice none 0 0))]∧zu prog 22=some (.tup [(false,[.d (.v (.slice none 0 0))]),(false,[.d (.v (.bool false))])])∧prog.appOk 22=true∧prog.elemT 22=some 29:=by and_intros<;>kernel_rfl
@[simp] theorem zyS:prog.lay 23=some (1,false)∧ZP prog 23= [some 27]∧zu prog 23=some (.tup [(false,[.d (.v (.slice none 0 0))]),(false,[.d (.v (.bool false))])])∧prog.elemT 23=some 27:=by and_intros<;>kernel_rfl
@[simp] theorem zyT:prog.lay 24=some (1,false)∧ZP prog 24= [some 9]∧ZB prog 24=some [.d (.v (.slice none 0 0))]∧zu prog 24=some (.tup [(false,[.d (.v (.slice none 0 0))]),(false,[.d (.v (.bool false))])])∧prog.elemT 24=some 9:=by and_intros<;>kernel_rfl
@[simp] theorem zyU:prog.lay 25=some (1,false)∧ZP prog 25= [none]∧ZO prog 25=some false∧zu prog 25=some (.tup [(false,[.d (.v (.float .f64 0))]),(false,[.d (.v (.bool false))])]):=by and_intros<;>kernel_rfl
@[simp] theorem zyV:prog.lay 27=some (6,true)∧(prog.info? 27).isSome=true∧prog.bytesOf 27=88∧ZP prog 27= [none,none,none,none,some 9,some 27]∧ZB prog 27=some [.d (.v (.int .i64 0)),.d (.v (.int .i64 0)),.d (.v (.float .f64 0)),.d (.v (.string ⟨#[]⟩)),.d (.v (.slice none 0 0)),.d (.v (.slice none 0 0))]∧prog.fld 27 0=some (0,1,false)∧prog.fld 27 1=some (1,1,false)∧prog.fld 27 2=some (2,1,false)∧prog.fld 27 3=some (3,1,false)∧prog.fld 27 4=some (4,1,false)∧prog.fld 27 5=some (5,1,false)∧prog.strOk 27=true∧zu prog 27=some (.tup [(true,[.d (.v (.int .i64 0)),.d (.v (.int .i64 0)),.d (.v (.float .f64 0)),.d (.v (.string ⟨#[]⟩)),.d (.v (.slice none 0 0)),.d (.v (.slice none 0 0))]),(false,[.d (.v (.bool false))])])∧prog.appOk 27=true:=by and_intros<;>kernel_rfl
@[simp] theorem zl5:prog.cellsOf 27=6:=by kernel_rfl
@[simp] theorem zyW:prog.lay 29=some (11,true)∧prog.cellsOf 29=11∧prog.bytesOf 29=168∧ZP prog 29= [none,none,some 9,some 27,none,none,none,none,some 9,some 27,none]∧ZB prog 29=some [.d (.v (.int .i64 0)),.d (.v (.string ⟨#[]⟩)),.d (.v (.slice none 0 0)),.d (.v (.slice none 0 0)),.d (.v (.int .i64 0)),.d (.v (.int .i64 0)),.d (.v (.float .f64 0)),.d (.v (.string ⟨#[]⟩)),.d (.v (.slice none 0 0)),.d (.v (.slice none 0 0)),.d (.v (.int .i64 0))]∧prog.fld 29 0=some (0,1,false)∧prog.fld 29 1=some (1,1,false)∧prog.fld 29 2=some (2,1,false)∧prog.fld 29 3=some (3,1,false)∧prog.fld 29 4=some (4,6,true)∧prog.fld 29 5=some (10,1,false)∧prog.strOk 29=true∧zu prog 29=some (.tup [(true,[.d (.v (.int .i64 0)),.d (.v (.string ⟨#[]⟩)),.d (.v (.slice none 0 0)),.d (.v (.slice none 0 0)),.d (.v (.int .i64 0)),.d (.v (.int .i64 0)),.d (.v (.float .f64 0)),.d (.v (.string ⟨#[]⟩)),.d (.v (.slice none 0 0)),.d (.v (.slice none 0 0)),.d (.v (.int .i64 0))]),(false,[.d (.v (.bool false))])])∧prog.appOk 29=true:=by and_intros<;>kernel_rfl
@[simp] theorem zyX:prog.lay 32=some (1,false)∧ZP prog 32= [some 22]∧ZB prog 32=some [.d (.v (.slice none 0 0))]∧zu prog 32=some (.tup [(false,[.d (.v (.slice none 0 0))]),(false,[.d (.v (.bool false))])])∧prog.elemT 32=some 22:=by and_intros<;>kernel_rfl
@[simp] theorem zyY:prog.lay 66=some (3,true)∧ZP prog 66= [some 22,some 22,some 22]∧ZB prog 66=some [.d (.v (.slice none 0 0)),.d (.v (.slice none 0 0)),.d (.v (.slice none 0 0))]∧prog.fld 66 0=some (0,1,false)∧prog.fld 66 1=some (1,1,false)∧prog.fld 66 2=some (2,1,false)∧prog.strOk 66=true∧zu prog 66=some (.tup [(true,[.d (.v (.slice none 0 0)),.d (.v (.slice none 0 0)),.d (.v (.slice none 0 0))]),(false,[.d (.v (.bool false))])]):=by and_intros<;>kernel_rfl
@[simp] theorem zyZ:prog.lay 96=some (1,false)∧prog.ptrT 96=some (some 9)∧zu prog 96=some (.tup [(false,[.d (.v (.pointer none))]),(false,[.d (.v (.bool false))])]):=by and_intros<;>kernel_rfl
@[simp] theorem zy0:prog.lay 97=some (1,false)∧ZP prog 97= [none]∧prog.ptrT 97=some (some 179)∧zu prog 97=some (.tup [(false,[.d (.v (.pointer none))]),(false,[.d (.v (.bool false))])]):=by and_intros<;>kernel_rfl
@[simp] theorem zy1:prog.lay 98=some (1,false)∧prog.ptrT 98=some (some 104)∧zu prog 98=some (.tup [(false,[.d (.v (.pointer none))]),(false,[.d (.v (.bool false))])]):=by and_intros<;>kernel_rfl
@[simp] theorem zy2:prog.lay 99=some (1,false)∧prog.ptrT 99=some (some 3)∧zu prog 99=some (.tup [(false,[.d (.v (.pointer none))]),(false,[.d (.v (.bool false))])]):=by and_intros<;>kernel_rfl
@[simp] theorem zxY:prog.lay 101=some (4,true)∧prog.cellsOf 101=4∧(prog.info? 101).isSome=true∧prog.bytesOf 101=32∧ZP prog 101= [none,none,none,none]∧ZB prog 101=some [.d (.v (.pointer none)),.d (.v (.pointer none)),.d (.v (.pointer none)),.d (.v (.pointer none))]∧prog.fld 101 0=some (0,1,false)∧prog.fld 101 1=some (1,1,false)∧prog.fld 101 2=some (2,1,false)∧prog.fld 101 3=some (3,1,false)∧prog.strOk 101=true∧zu prog 101=some (.tup [(true,[.d (.v (.pointer none)),.d (.v (.pointer none)),.d (.v (.pointer none)),.d (.v (.pointer none))]),(false,[.d (.v (.bool false))])])∧prog.appOk 101=true:=by and_intros<;>kernel_rfl
@[simp] theorem zxZ:prog.lay 104=some (1,false)∧ZP prog 104= [none]∧ZB prog 104=some [.d (.v (.nilIface))]∧ZO prog 104=some true:=by and_intros<;>kernel_rfl
@[simp] theorem zx0:prog.lay 135=some (1,false)∧ZP prog 135= [none]∧prog.ptrT 135=some (some 222)∧zu prog 135=some (.tup [(false,[.d (.v (.pointer none))]),(false,[.d (.v (.bool false))])]):=by and_intros<;>kernel_rfl
@[simp] theorem zx1:ZP prog 140= [none]∧zu prog 140=some (.tup [(false,[.d (.v (.pointer none))]),(false,[.d (.v (.bool false))])]):=by and_intros<;>kernel_rfl
@[simp] theorem zx2:ZP prog 148= [some 101]∧zu prog 148=some (.tup [(false,[.d (.v (.slice none 0 0))]),(false,[.d (.v (.bool false))])])∧prog.elemT 148=some 101:=by and_intros<;>kernel_rfl
@[simp] theorem zx3:prog.lay 149=some (1,false)∧ZP prog 149= [some 101]∧zu prog 149=some (.tup [(false,[.d (.v (.slice none 0 0))]),(false,[.d (.v (.bool false))])])∧prog.elemT 149=some 101:=by and_intros<;>kernel_rfl
@[simp] theorem zx4:prog.lay 179=some (1,false)∧ZP prog 179= [some 205]∧ZB prog 179=some [.d (.v (.slice none 0 0))]∧zu prog 179=some (.tup [(false,[.d (.v (.slice none 0 0))]),(false,[.d (.v (.bool false))])])∧prog.elemT 179=some 205:=by and_intros<;>kernel_rfl
@[simp] theorem zx5:prog.lay 194=some (1,false)∧ZP prog 194= [none]:=by and_intros<;>kernel_rfl
@[simp] theorem zx6:prog.lay 205=some (2,true)∧prog.cellsOf 205=2∧prog.bytesOf 205=32∧ZB prog 205=some [.d (.v (.string ⟨#[]⟩)),.d (.v (.nilIface))]∧prog.fld 205 0=some (0,1,false)∧prog.fld 205 1=some (1,1,false)∧prog.strOk 205=true∧zu prog 205=some (.tup [(true,[.d (.v (.string ⟨#[]⟩)),.d (.v (.nilIface))]),(false,[.d (.v (.bool false))])])∧prog.appOk 205=true:=by and_intros<;>kernel_rfl
@[simp] theorem zx7:prog.lay 213=some (1,false)∧ZP prog 213= [some 101]∧zu prog 213=some (.tup [(false,[.d (.v (.slice none 0 0))]),(false,[.d (.v (.bool false))])])∧prog.elemT 213=some 101:=by and_intros<;>kernel_rfl
@[simp] theorem zx8:prog.lay 215=some (1,true)∧ZP prog 215= [some 101]∧ZB prog 215=some [.d (.v (.slice none 0 0))]∧prog.fld 215 0=some (0,1,false)∧prog.strOk 215=true∧zu prog 215=some (.tup [(true,[.d (.v (.slice none 0 0))]),(false,[.d (.v (.bool false))])]):=by and_intros<;>kernel_rfl
@[simp] theorem zx9:ZP prog 216= [none]∧zu prog 216=some (.tup [(false,[.d (.v (.pointer none))]),(false,[.d (.v (.bool false))])]):=by and_intros<;>kernel_rfl
@[simp] theorem zya:prog.lay 218=some (1,false)∧zu prog 218=some (.tup [(false,[.d (.v (.slice none 0 0))]),(false,[.d (.v (.bool false))])])∧prog.elemT 218=some 233:=by and_intros<;>kernel_rfl
@[simp] theorem zyb:prog.lay 220=some (1,true)∧ZP prog 220= [some 233]∧ZB prog 220=some [.d (.v (.slice none 0 0))]∧prog.fld 220 0=some (0,1,false)∧prog.strOk 220=true∧zu prog 220=some (.tup [(true,[.d (.v (.slice none 0 0))]),(false,[.d (.v (.bool false))])]):=by and_intros<;>kernel_rfl
@[simp] theorem zyc:ZP prog 222= [some 101,some 233]∧ZB prog 222=some [.d (.v (.slice none 0 0)),.d (.v (.slice none 0 0))]∧prog.fld 222 0=some (0,1,true)∧prog.fld 222 1=some (1,1,true)∧prog.strOk 222=true∧zu prog 222=some (.tup [(true,[.d (.v (.slice none 0 0)),.d (.v (.slice none 0 0))]),(false,[.d (.v (.bool false))])]):=by and_intros<;>kernel_rfl
@[simp] theorem zyd:ZP prog 228= [none,none,none]∧ZB prog 228=some [.d (.v (.pointer none)),.d (.v (.pointer none)),.d (.v (.pointer none))]∧prog.fld 228 0=some (0,1,false)∧prog.fld 228 1=some (1,1,false)∧prog.fld 228 2=some (2,1,false)∧prog.strOk 228=true∧zu prog 228=some (.tup [(true,[.d (.v (.pointer none)),.d (.v (.pointer none)),.d (.v (.pointer none))]),(false,[.d (.v (.bool false))])]):=by and_intros<;>kernel_rfl
@[simp] theorem zye:prog.lay 233=some (5,true)∧prog.cellsOf 233=5∧(prog.info? 233).isSome=true∧prog.bytesOf 233=40∧ZP prog 233= [none,none,none,none,none]∧ZB prog 233=some [.d (.v (.pointer none)),.d (.v (.pointer none)),.d (.v (.pointer none)),.d (.v (.pointer none)),.d (.v (.pointer none))]∧prog.fld 233 0=some (0,4,true)∧prog.fld 233 1=some (4,1,false)∧prog.strOk 233=true∧zu prog 233=some (.tup [(true,[.d (.v (.pointer none)),.d (.v (.pointer none)),.d (.v (.pointer none)),.d (.v (.pointer none)),.d (.v (.pointer none))]),(false,[.d (.v (.bool false))])])∧prog.appOk 233=true:=by and_intros<;>kernel_rfl
@[simp] theorem zyf:ZO prog 259=some false∧zu prog 259=some (.tup [(false,[.d (.v (.slice none 0 0))]),(false,[.d (.v (.bool false))])])∧prog.elemT 259=some 20:=by and_intros<;>kernel_rfl
@[simp] theorem zyg:prog.lay 271=some (1,false)∧ZP prog 271= [none]∧prog.concrete 271=true∧prog.ptrT 271=some (some 321)∧zu prog 271=some (.tup [(false,[.d (.v (.pointer none))]),(false,[.d (.v (.bool false))])]):=by and_intros<;>kernel_rfl
@[simp] theorem zyh:ZP prog 272= [none]∧prog.concrete 272=true∧prog.ptrT 272=some (some 274)∧zu prog 272=some (.tup [(false,[.d (.v (.pointer none))]),(false,[.d (.v (.bool false))])]):=by and_intros<;>kernel_rfl
@[simp] theorem zyi:ZP prog 274= []∧ZB prog 274=some []∧prog.strOk 274=true∧zu prog 274=some (.tup [(true,[]),(false,[.d (.v (.bool false))])]):=by and_intros<;>kernel_rfl
@[simp] theorem zyj:ZP prog 276= [none]∧ZO prog 276=some false∧zu prog 276=some (.tup [(false,[.d (.v (.map none))]),(false,[.d (.v (.bool false))])]):=by and_intros<;>kernel_rfl
@[simp] theorem zyk:ZP prog 299= [some 149]∧zu prog 299=some (.tup [(false,[.d (.v (.slice none 0 0))]),(false,[.d (.v (.bool false))])]):=by and_intros<;>kernel_rfl
@[simp] theorem zyl:ZO prog 317=some false∧zu prog 317=some (.tup [(false,[.d (.v (.int .u64 0))]),(false,[.d (.v (.bool false))])]):=by and_intros<;>kernel_rfl
@[simp] theorem zym:prog.lay 321=some (1,true)∧ZP prog 321= [none]∧ZB prog 321=some [.d (.v (.nilIface))]∧prog.fld 321 0=some (0,1,false)∧prog.strOk 321=true∧zu prog 321=some (.tup [(true,[.d (.v (.nilIface))]),(false,[.d (.v (.bool false))])]):=by and_intros<;>kernel_rfl
@[simp] theorem zyn:prog.lay 329=some (1,false)∧ZP prog 329= [none]∧ZO prog 329=some true:=by and_intros<;>kernel_rfl
@[simp] theorem zyo:ZP prog 362= [none]:=by kernel_rfl
@[simp] theorem zyp:ZP prog 381= [none]∧zu prog 381=some (.tup [(false,[.d (.v (.int .i64 0))]),(false,[.d (.v (.bool false))])]):=by and_intros<;>kernel_rfl
@[simp] theorem zyq:ZO prog 385=some false∧zu prog 385=some (.tup [(false,[.d (.v (.int .u32 0))]),(false,[.d (.v (.bool false))])]):=by and_intros<;>kernel_rfl
@[simp] theorem zyr:ZO prog 431=some false∧zu prog 431=some (.tup [(false,[.d (.v (.float .f32 0))]),(false,[.d (.v (.bool false))])]):=by and_intros<;>kernel_rfl
@[simp] theorem zys:ZO prog 433=some false∧zu prog 433=some (.tup [(false,[.d (.v (.int .i8 0))]),(false,[.d (.v (.bool false))])]):=by and_intros<;>kernel_rfl
@[simp] theorem zyt:ZO prog 435=some false∧zu prog 435=some (.tup [(false,[.d (.v (.int .i16 0))]),(false,[.d (.v (.bool false))])]):=by and_intros<;>kernel_rfl
@[simp] theorem zyu:ZO prog 440=some false∧zu prog 440=some (.tup [(false,[.d (.v (.int .u16 0))]),(false,[.d (.v (.bool false))])]):=by and_intros<;>kernel_rfl
@[simp] theorem zyv:prog.lay 443=some (1,false)∧prog.concrete 443=true∧prog.ptrT 443=some none∧zu prog 443=some (.tup [(false,[.d (.v (.slice none 0 0))]),(false,[.d (.v (.bool false))])])∧prog.elemT 443=some 20:=by and_intros<;>kernel_rfl
@[simp] theorem zyw:prog.concrete 444=true∧prog.isMap 444=true∧prog.ptrT 444=some none∧zu prog 444=some (.tup [(false,[.d (.v (.map none))]),(false,[.d (.v (.bool false))])]):=by and_intros<;>kernel_rfl
@[simp] theorem zyx:prog.concrete 467=true∧prog.ptrT 467=some (some 473)∧zu prog 467=some (.tup [(false,[.d (.v (.pointer none))]),(false,[.d (.v (.bool false))])]):=by and_intros<;>kernel_rfl
@[simp] theorem zyy:prog.concrete 470=true∧prog.ptrT 470=some (some 471)∧zu prog 470=some (.tup [(false,[.d (.v (.pointer none))]),(false,[.d (.v (.bool false))])]):=by and_intros<;>kernel_rfl
@[simp] theorem zyz:ZP prog 471= []∧ZB prog 471=some []∧prog.strOk 471=true∧zu prog 471=some (.tup [(true,[]),(false,[.d (.v (.bool false))])]):=by and_intros<;>kernel_rfl
@[simp] theorem zyA:ZP prog 473= [some 20,none,none]∧ZB prog 473=some [.d (.v (.slice none 0 0)),.d (.v (.pointer none)),.d (.v (.int .i64 0))]∧prog.fld 473 0=some (0,1,false)∧prog.fld 473 1=some (1,1,false)∧prog.fld 473 2=some (2,1,false)∧prog.strOk 473=true∧zu prog 473=some (.tup [(true,[.d (.v (.slice none 0 0)),.d (.v (.pointer none)),.d (.v (.int .i64 0))]),(false,[.d (.v (.bool false))])]):=by and_intros<;>kernel_rfl
theorem zkY (kind n:Int)(f:Nat)(s:ByteArray)(keys:List ByteArray)(l:List GV)(key:ByteArray)(cs:List Value)(w:World)(S:Nat→Prop)(hv:RepGV S w (.mk kind n f s keys l) cs)(hsort:keys.Pairwise fun a b=>blt a b=true):
  Calls prog 83 #[.agg cs.toArray,.string key] w (Makes (fun _ u=>u= .tuple #[.int .i64 (zb4 key keys:Nat),.bool (decide (keys[zb4 key keys]? =some key))]) w):=by
 obtain ⟨ka,kc,la,lc,rfl,ok,hkc,hlc,hks,hls⟩:=hv.open
 have h1:=ok.okKeys
 obtain ⟨nk,hnk⟩:∃n,keys.length=n:=⟨_,rfl⟩
 have Hk:=Lib.hid hnk
 have HS:=Lib.hid hsort
 rw[hnk] at h1 hkc ⊢
 have h2:=ok.okL
 clear hnk ok hsort
 go_enter func83,ntmps83
 go_wp2
 go_quiet (fail)
 go_wp2
 have hks0:=hks.ext (((Ext.refl w).alloc (.cells #[.int .i64 kind,.int .i64 n,.float .f64 f,.string s,.slice ka nk kc,.slice la l.length lc] 27)).drewN nq)
 go_loop [6,7] (fun lo hi=>∃a b:Nat,a≤b∧b≤nk∧lo= .int .i64 a∧hi= .int .i64 b∧Hid (∀j q,j<a→keys[j]? =some q→blt q key=true)∧Hid (∀j q,b≤j→keys[j]? =some q→blt q key=false)) (fun lo hi=>(intOf hi - intOf lo).toNat)
 case atStart=>exact ⟨0,nk,by omega,by omega,rfl,rfl,fun j q h=>by omega,fun j q h h'=>by have:=(List.getElem?_eq_some_iff.1 h').1;rw[Hk.out] at this;omega⟩
 case round=>
  obtain ⟨a,b,hab,hbn,rfl,rfl,hlo,hhi⟩:=hrel
  by_cases hlt:a<b
  ·obtain ⟨q,hq⟩:∃q,keys[a+(b - a) / 2]? =some q:=⟨_,List.getElem?_eq_getElem (by rw[Hk.out];omega)⟩
   obtain ⟨ad,rfl,hc⟩:=hks0.at hq
   have Hq:=Lib.hid hq;clear hq
   have Hm:=Lib.hid (Nat.div_le_self (b - a) 2)
   have Hm2:=Lib.hid (show (b - a) / 2<b - a by omega)
   by_cases hbl:Op.bytesLess q.toList key.toList=true
   ·have HB:=Lib.hid hbl
    go_wp2
    go_round
    case rel=>
     refine ⟨a+(b - a) / 2+1,b,by have:=Hm2.out;omega,hbn,by go_num,rfl,fun j p hj hp=>?_,hhi⟩
     by_cases hjj:j=a+(b - a) / 2
     ·subst hjj;rw[Hq.out] at hp;cases hp;exact HB.out
     ·rcases Nat.lt_or_ge j a with hja|hja
      ·exact hlo.out j p hja hp
      ·have hpw:=List.pairwise_iff_getElem.1 HS.out j (a+(b - a) / 2) (List.getElem?_eq_some_iff.1 hp).1 (List.getElem?_eq_some_iff.1 Hq.out).1 (by omega)
       rw[(List.getElem?_eq_some_iff.1 hp).2,(List.getElem?_eq_some_iff.1 Hq.out).2] at hpw
       exact Zv hpw HB.out
    case measure=>have:=Hm2.out;simp [intOf];omega
   ·have hbl':Op.bytesLess q.toList key.toList=false:=by simpa using hbl
    have HB:=Lib.hid hbl'
    clear hbl
    go_wp2
    go_round
    case rel=>
     refine ⟨a,a+(b - a) / 2,by omega,by have:=Hm2.out;omega,rfl,by go_num,hlo,fun j p hj hp=>?_⟩
     by_cases hjj:j=a+(b - a) / 2
     ·subst hjj;rw[Hq.out] at hp;cases hp;exact HB.out
     ·have hpw:=List.pairwise_iff_getElem.1 HS.out (a+(b - a) / 2) j (List.getElem?_eq_some_iff.1 Hq.out).1 (List.getElem?_eq_some_iff.1 hp).1 (by omega)
      rw[(List.getElem?_eq_some_iff.1 hp).2,(List.getElem?_eq_some_iff.1 Hq.out).2] at hpw
      cases hpk:blt p key with
      |false=>rfl
      |true=>exact absurd (Zv hpw hpk) (by have:=HB.out;unfold blt;rw[this];simp)
    case measure=>have:=Hm2.out;simp [intOf];omega
  ·obtain rfl:a=b:=by omega
   have HL:Hid (zb4 key keys=a):=zlU (by rw[Hk.out];omega) (fun j q hj hq=>hlo.out j q hj hq) fun q hq=>hhi.out a q (Nat.le_refl _) hq
   have HF:∀(b:Bool) (W:World),b=decide (keys[a]? =some key)→Ext w W→Makes (fun _ u=>u= .tuple #[.int .i64 (zb4 key keys:Nat),.bool (decide (keys[zb4 key keys]? =some key))]) w (.returned (.tuple #[.int .i64 a,.bool b])) W:=fun b W hb hE=>⟨_,rfl,by rw[HL.out,hb],hE⟩
   have HF':=Lib.hid HF;clear HF
   have HE:∀m,Ext w (((w.alloc (.cells #[.int .i64 kind,.int .i64 n,.float .f64 f,.string s,.slice ka nk kc,.slice la l.length lc] 27)).drewN nq).drewN m):=fun m=>(((Ext.refl w).alloc _).drewN nq).drewN m
   have HE':=Lib.hid HE;clear HE
   by_cases ha:a<nk
   ·obtain ⟨q,hq⟩:∃q,keys[a]? =some q:=⟨_,List.getElem?_eq_getElem (by rw[Hk.out];omega)⟩
    obtain ⟨ad,rfl,hc⟩:=(hks.ext ((Ext.refl w).alloc (.cells #[.int .i64 kind,.int .i64 n,.float .f64 f,.string s,.slice ka nk kc,.slice la l.length lc] 27))).at hq
    have Hq:=Lib.hid hq;clear hq
    have hda:decide ((a:Int)<(nk:Int))=true:=decide_eq_true (by omega)
    have hlt1:(a:Int)<(nk:Int):=by omega
    have hlt0:(0:Int)≤(a:Int):=by omega
    go_wp2
    go_quiet (fail)
    go_wp2
    go_ret2
    refine HF'.out _ _ ?_ ?_
    ·rw[Hq.out,zfO];simp
    ·exact HE'.out _
   ·have HN:Hid (keys[a]? =none):=List.getElem?_eq_none (by rw[Hk.out];omega)
    have hda:decide ((a:Int)<(nk:Int))=false:=decide_eq_false (by omega)
    go_wp2
    go_quiet (fail)
    go_wp2
    go_ret2
    refine HF'.out _ _ ?_ ?_
    ·rw[HN.out];simp
    ·exact HE'.out _
def zc7 (fs:List (ByteArray×GV)):GV:=.mk 6 0 0 ⟨#[]⟩ (fs.map (·.1)) (fs.map (·.2))
theorem ze4 {B:Nat}{a w w':World}{row:Option Nat}(h:Below B a w)(hg:w.grownBy w' row)(hB:B≤w.heap.size)(hr:∀k,row=some k→B≤k):Below B a w':=Below.grown h hg hB hr
structure OutSt (w:World) (T:Nat→Prop) (bo:Nat) (wr:World) (vk vl:Value) (ks:List ByteArray) (ls:List GV):Prop where
 hbo:w.heap.size≤bo
 hT:∀b,T b→b<w.heap.size
 below:Below bo w wr
 lt:bo<wr.heap.size
 out:wr.heap[bo]? =some (.cells #[.int .i64 6,.int .i64 0,.float .f64 0,.string ⟨#[]⟩,vk,vl] 27 (0,0))
 bk:Build RS 9 1 (bo< ·) T wr vk ks
 bl:Build RG 27 6 (bo< ·) T wr vl ls
theorem OutSt.ext {w:World}{T:Nat→Prop}{bo:Nat}{wr:World}{vk vl:Value}{ks:List ByteArray}{ls:List GV}(h:OutSt w T bo wr vk vl ks ls):Ext w wr:=h.below.mono h.hbo
theorem OutSt.drew {w:World}{T:Nat→Prop}{bo:Nat}{wr:World}{vk vl:Value}{ks:List ByteArray}{ls:List GV}(h:OutSt w T bo wr vk vl ks ls):OutSt w T bo wr.drew vk vl ks ls:=
 ⟨h.hbo,h.hT,h.below.drew,h.lt,h.out,h.bk.ext zcY ((Ext.refl wr).drew),h.bl.ext zbI ((Ext.refl wr).drew)⟩
theorem OutSt.keysTo {w:World}{T:Nat→Prop}{bo:Nat}{wr w3:World}{vk vl vk':Value}{ks ks':List ByteArray}{ls:List GV}(h:OutSt w T bo wr vk vl ks ls)(hB:Build RS 9 1 (bo< ·) T w3 vk' ks')(hg:wr.grownBy w3 vk.ownBlock):
  w3.cell? ⟨bo,4,none⟩=some vk∧w3.frozen? ⟨bo,4,none⟩=false∧OutSt w T bo (w3.setCell ⟨bo,4,none⟩ vk') vk' vl ks' ls:=by
 have hne:some bo≠vk.ownBlock:=fun hc=>by have:=h.bk.row_in hc.symm;omega
 have ho:=(hg.block bo h.lt hne).trans h.out
 have hs:=hg.size
 have hl:=h.lt
 have hsame:=ZT w3 bo 4 vk'
 refine ⟨zh ho rfl,by simp [World.frozen?,ho],⟨h.hbo,h.hT,?_,by simp [World.setCell];omega,by rw[zaz vk' ho];rfl,?_,?_⟩⟩
 ·exact (ze4 h.below hg (by omega) fun k hk=>by have:=h.bk.row_in hk;omega).setCell (Nat.le_refl _) _
 ·exact hB.frame zcY (hsame.mono fun b hb=>by omega) (hsame.mono fun b hb=>by have:=h.hT b hb.1;have:=h.hbo;omega) (fun _ h=>h) fun _ h=>h
 ·have:=h.bl.other zbI hg (h.bl.row_ne h.bk (by decide)) fun k hk hT=>by have:=h.bk.row_in hk;have:=h.hT k hT;have:=h.hbo;omega
  exact this.frame zbI (hsame.mono fun b hb=>by omega) (hsame.mono fun b hb=>by have:=h.hT b hb.1;have:=h.hbo;omega) (fun _ h=>h) fun _ h=>h
theorem OutSt.listTo {w:World}{T:Nat→Prop}{bo:Nat}{wr w3:World}{vk vl vl':Value}{ks:List ByteArray}{ls ls':List GV}(h:OutSt w T bo wr vk vl ks ls)(hB:Build RG 27 6 (bo< ·) T w3 vl' ls')(hg:wr.grownBy w3 vl.ownBlock):
  w3.cell? ⟨bo,5,none⟩=some vl∧w3.frozen? ⟨bo,5,none⟩=false∧OutSt w T bo (w3.setCell ⟨bo,5,none⟩ vl') vk vl' ks ls':=by
 have hne:some bo≠vl.ownBlock:=fun hc=>by have:=h.bl.row_in hc.symm;omega
 have ho:=(hg.block bo h.lt hne).trans h.out
 have hs:=hg.size
 have hl:=h.lt
 have hsame:=ZT w3 bo 5 vl'
 refine ⟨zh ho rfl,by simp [World.frozen?,ho],⟨h.hbo,h.hT,?_,by simp [World.setCell];omega,by rw[zaz vl' ho];rfl,?_,?_⟩⟩
 ·exact (ze4 h.below hg (by omega) fun k hk=>by have:=h.bl.row_in hk;omega).setCell (Nat.le_refl _) _
 ·have:=h.bk.other zcY hg (h.bk.row_ne h.bl (by decide)) fun k hk hT=>by have:=h.bl.row_in hk;have:=h.hT k hT;have:=h.hbo;omega
  exact this.frame zcY (hsame.mono fun b hb=>by omega) (hsame.mono fun b hb=>by have:=h.hT b hb.1;have:=h.hbo;omega) (fun _ h=>h) fun _ h=>h
 ·exact hB.frame zbI (hsame.mono fun b hb=>by omega) (hsame.mono fun b hb=>by have:=h.hT b hb.1;have:=h.hbo;omega) (fun _ h=>h) fun _ h=>h
theorem OutSt.appK {w:World}{T:Nat→Prop}{bo:Nat}{wr:World}{vk vl:Value}{ks:List ByteArray}{ls:List GV}(h:OutSt w T bo wr vk vl ks ls){ys:List ByteArray}{A:Option Addr}{n c:Nat}{S:Nat→Prop}(hl:ys.length=n)(hr:RepStrs S wr A ys){N:Nat}(hN:ks.length+n=N)(hn:N*16≤140737488355328):
  ∃vk' w3,(Builtin.append_ #[24,24] 24 #[vk,.slice A n c]).run prog wr= .ok vk' w3∧(∃A' c',vk'= .slice A' N c')∧w3.cell? ⟨bo,4,none⟩=some vk∧w3.frozen? ⟨bo,4,none⟩=false∧OutSt w T bo (w3.setCell ⟨bo,4,none⟩ vk') vk' vl (ks++ys) ls:=by
 subst hN
 obtain ⟨vk',w3,hrun,hB,hg,_,hsl⟩:=Build.appRow (P:=prog) (t:=24) (ty:=24) zcY underlying24 zhv rfl (by omega) (by omega) h.bk (c:=c) hl (RowOf.imp hr (Ext.refl _) fun _ _ _ k=>k) (fun y cs hy u hu=>by cases hy;simp at hu;subst hu;rfl) h.lt hn
 exact ⟨vk',w3,hrun,hsl,h.keysTo hB hg⟩
theorem OutSt.appL {w:World}{T:Nat→Prop}{bo:Nat}{wr:World}{vk vl:Value}{ks:List ByteArray}{ls:List GV}(h:OutSt w T bo wr vk vl ks ls){ys:List GV}{A:Option Addr}{n c:Nat}(hl:ys.length=n)(hr:RepGVs T wr A ys){N:Nat}(hN:ls.length+n=N)(hn:N*88≤140737488355328):
  ∃vl' w3,(Builtin.append_ #[23,23] 23 #[vl,.slice A n c]).run prog wr= .ok vl' w3∧(∃A' c',vl'= .slice A' N c')∧w3.cell? ⟨bo,5,none⟩=some vl∧w3.frozen? ⟨bo,5,none⟩=false∧OutSt w T bo (w3.setCell ⟨bo,5,none⟩ vl') vk vl' ks (ls++ys):=by
 subst hN
 obtain ⟨vl',w3,hrun,hB,hg,_,hsl⟩:=Build.appRow (P:=prog) (t:=23) (ty:=23) zbI underlying23 zfC rfl (by omega) (by omega) h.bl (c:=c) hl (RowOf.imp hr (Ext.refl _) fun x _ cs k=>RepGV.mono k fun b hb=>⟨hb,fun hc=>by have:=h.bl.row_in hc;have:=h.hT b hb;have:=h.hbo;omega⟩) (fun y cs hy=>hy.ones) h.lt hn
 exact ⟨vl',w3,hrun,hsl,h.listTo hB hg⟩
theorem OutSt.pushK {w:World}{T:Nat→Prop}{bo:Nat}{wr:World}{vk vl:Value}{ks:List ByteArray}{ls:List GV}(h:OutSt w T bo wr vk vl ks ls)(k:ByteArray){N:Nat}(hN:ks.length+1=N)(hn:N*16≤140737488355328):
  ∃vk' w3,(Builtin.append_ #[24,24] 24 #[vk,.slice (some ⟨wr.heap.size,0,none⟩) 1 1]).run prog (wr.alloc (.cells #[.string k] 9))= .ok vk' w3∧(∃A' c',vk'= .slice A' N c')∧w3.cell? ⟨bo,4,none⟩=some vk∧w3.frozen? ⟨bo,4,none⟩=false∧OutSt w T bo (w3.setCell ⟨bo,4,none⟩ vk') vk' vl (ks++ [k]) ls:=by
 subst hN
 obtain ⟨vk',w3,hrun,hB,hg,_,hsl⟩:=Build.push (P:=prog) (t:=24) (ty:=24) zcY underlying24 zhv rfl (by omega) (by omega) h.bk (y:=k) (ys:=[.string k]) rfl rfl (by simp [Value.oneCell']) (by have:=h.lt;omega) hn
 exact ⟨vk',w3,hrun,hsl,h.keysTo hB hg⟩
theorem OutSt.pushL {w:World}{T:Nat→Prop}{bo:Nat}{wr:World}{vk vl:Value}{ks:List ByteArray}{ls:List GV}(h:OutSt w T bo wr vk vl ks ls){v:GV}{cs:List Value}(hv:RepGV T wr v cs){N:Nat}(hN:ls.length+1=N)(hn:N*88≤140737488355328):
  ∃vl' w3,(Builtin.append_ #[23,23] 23 #[vl,.slice (some ⟨wr.heap.size,0,none⟩) 1 1]).run prog (wr.alloc (.cells cs.toArray 27))= .ok vl' w3∧(∃A' c',vl'= .slice A' N c')∧w3.cell? ⟨bo,5,none⟩=some vl∧w3.frozen? ⟨bo,5,none⟩=false∧OutSt w T bo (w3.setCell ⟨bo,5,none⟩ vl') vk vl' ks (ls++ [v]):=by
 subst hN
 obtain ⟨vl',w3,hrun,hB,hg,_,hsl⟩:=Build.push (P:=prog) (t:=23) (ty:=23) zbI underlying23 zfC rfl (by omega) (by omega) h.bl (y:=v) (ys:=cs) (RepGV.mono hv fun b hb=>⟨hb,fun hc=>by have:=h.bl.row_in hc;have:=h.hT b hb;have:=h.hbo;omega⟩) hv.length hv.ones (by have:=h.lt;omega) hn
 exact ⟨vl',w3,hrun,hsl,h.listTo hB hg⟩
theorem OutSt.done {w:World}{T:Nat→Prop}{bo:Nat}{wr:World}{vk vl:Value}{ks:List ByteArray}{ls:List GV}(h:OutSt w T bo wr vk vl ks ls)(ok:GVok 6 0 0 ⟨#[]⟩ ks ls):
  RepGV (fun b=>T b∨w.heap.size≤b) wr (.mk 6 0 0 ⟨#[]⟩ ks ls) [.int .i64 6,.int .i64 0,.float .f64 0,.string ⟨#[]⟩,vk,vl]:=by
 obtain ⟨ka,kc,rfl,hkc,hk⟩:=h.bk.done zcY (by omega)
 obtain ⟨la,lc,rfl,hlc,hl⟩:=h.bl.done zbI (by omega)
 have hbo:=h.hbo
 refine RepGV.close ok hkc hlc (RowOf.frame hk (fun _ _=>rfl) (fun b hb=>.inr (by omega)) fun _ _ _ k=>k) ?_
 exact RowOf.frame hl (fun _ _=>rfl) (fun b hb=>.inr (by omega)) fun _ _ _ k=>RepGV.mono k fun b hb=>.inl hb
end Go.Smd
end
