/- Part 16 of the proof: Vb. -/
import Derived.Test.YtdgnolbdcmgfoaaGreatQO14
import Derived.Test.YtdgnolbdcmgfoaaGreatQO15
import Derived.Test.YtdgnolbdcmgfoaaGreatQO12
set_option linter.unusedVariables false
set_option linter.unusedSimpArgs false
set_option maxRecDepth 100000
set_option maxHeartbeats 8000000
section
namespace Go.Smd
open Go.RowKit Go.Proofs Go.Proofs.Tryz
abbrev zww:TypeId:=271
theorem zea (x y:D):AProc prog 182 [.c (.own 1000000000 0),.c (.d x)] [(1000000000,.cells [.d y] 321)] (fun r own'=>r= .c (.io 271 1000000000 0)∧own'= [(1000000000,.cells [.d x] 321)]):=by
 refine zap [] func182 (by kernel_rfl) rfl ntmps182 results182 (Nat.le_of_ble_eq_true (by kernel_rfl)) ?_;intro hok w0 S0
 (repeat' (first|(with_reducible first|refine zl (fun _=>?_) (fun _=>?_)|refine zk (fun _=>?_) (fun _=>?_)|refine zm zd (by kernel_rfl) ?_|exact zc rfl)|(simp -dsimp)));(all_goals try with_reducible refine zc ?_)
 all_goals exact ⟨rfl,rfl⟩
theorem AWp.at {P:Program}{N:Nat}{w0:World}{S0:Env}{c:Code}{Q:Exit→St→Prop}{σ τ:St}(h:σ=τ)(k:AWp P N w0 S0 c Q τ):AWp P N w0 S0 c Q σ:=h▸k
abbrev zpB (l:List Tree):D:=.sl 20 (l.map fun t=>[.tr t])
abbrev ziu (l:List Tree)(v:Nat)(i:Int):Ow:=.cells [.d (zpB l),.own v 0,.d (.v (.int .i64 i))] 473
abbrev cVU (y:D):Ow:=.cells [.d y] 321
theorem zgK (l:List Tree)(i:Int)(hi: -1≤i)(hi2:i<4000000000000000000)(hl:l.length≤140737488351232)(y:D):AProc prog 372 [.c (.own 1000000000 0)] [(1000000000,ziu l 1000000001 i),(1000000001,cVU y)]
  (fun r own'=>r=aV (.bool (decide (i+1<l.length)))∧own'= [(1000000000,ziu l 1000000001 (i+1)),(1000000001,cVU y)]):=by
 have hw:IntKind.wrap .i64 (i+1)=i+1:=zy (by omega) (by omega)
 have hl2:l.length≤9223372036854775807:=by omega
 refine zap [(2,([],[(0,[]),(1,[]),(2,[]),(3,[]),(4,[]),(5,[]),(6,[]),(7,[]),(8,[]),(9,[]),(10,[])]))] func372 (by kernel_rfl) rfl ntmps372 results372 (Nat.le_of_ble_eq_true (by kernel_rfl)) ?_;intro hok w0 S0
 (repeat' (first|(with_reducible first|refine zl (fun _=>?_) (fun _=>?_)|refine zk (fun _=>?_) (fun _=>?_)|refine zm zd (by kernel_rfl) ?_|exact zc rfl)|(simp -dsimp [hw,hl2])));(all_goals try with_reducible refine zc ?_)
 all_goals exact ⟨rfl,rfl⟩
theorem zlg (l:List Tree)(i:Nat)(hi:i<l.length)(hl:l.length≤140737488351232)(y:D):AProc prog 371 [.c (.own 1000000000 0)] [(1000000000,ziu l 1000000001 i),(1000000001,cVU y)]
  (fun r own'=>r= .tup [(false,[.d (.v (.int .i64 i))]),(false,[.io 271 1000000001 0])]∧own'= [(1000000001,cVU (.tr l[i])),(1000000000,ziu l 1000000001 i)]):=by
 have hl2:l.length≤9223372036854775807:=by omega
 have hni:¬((i:Int)<0):=by omega
 have hil:¬((l.length:Int)≤i):=by omega
 have hget:(l.map fun t=>[D.tr t])[i]? =some [.tr l[i]]:=by simp [hi]
 refine zap [(3,([],[(0,[]),(1,[]),(2,[]),(3,[]),(4,[]),(5,[]),(6,[]),(7,[]),(8,[]),(9,[])]))] func371 (by kernel_rfl) rfl ntmps371 results371 (Nat.le_of_ble_eq_true (by kernel_rfl)) ?_;intro hok w0 S0
 (repeat' (first|(with_reducible first|refine zl (fun _=>?_) (fun _=>?_)|refine zk (fun _=>?_) (fun _=>?_)|refine zm zd (by kernel_rfl) ?_|exact zc rfl)|(simp -dsimp [hl2,hni,hil,hi,hget])));(all_goals try with_reducible refine zc ?_)
 refine zdH ?_
 refine znw zd 18 [0,1,2,3,4,5,6,7,8,9,10,11,12,13,14,15,16,17,18,19,20] [(21,?m21),(22,?m22),(23,?m23),(24,?m24),(25,?m25),(26,?m26),(27,?m27),(28,?m28),(29,?m29),(30,?m30),(31,?m31),(32,?m32),(33,?m33),(34,?m34),(35,?m35),(36,?m36),(37,?m37),(38,?m38),(39,?m39),(2,?m2),(3,?m3)] ([(1000000001,cVU (.tr l[i])),(1000000000,ziu l 1000000001 i)]) (by kernel_rfl) ?h0 ?h1 ?he ?hk
 case h0=>
  iterate 18 refine ⟨.inr ⟨_,_,rfl,rfl,by simp [zed,z6,Zk,zN,Zh,ZH,zdZ,zaM,zca,zes,zdz,zai,zb2,zd0,zfl,zcP,zdy,zaL,Zo,zw,zau,zaj,zc5,zbp,zb8,zK,zaR,zaY,zaZ,za0,za1,zbD,zcO,zaJ,zaI,zcj,zbG,zcQ,zcE,trD,St.ev,St.tmp,St.put,St.h,St.new,ze,zbq,ZA,zcB,zaS,Zx,zaw,Zq,ZG,zex,zaf,zbF,zbE,zaD,zb9,zbV,zae,za2,za3,za4,za5,za6,za7,za8,za9,zbi,zbj,zba,zbb,zbc,zbd,zbe,zbf,zbg,zbh,Zj,zao,St.start,Z6,zbm,hl2,hni,hil,hi,hget,zi]<;>with_reducible rfl⟩,?_⟩
  iterate 3 refine ⟨.inl (by kernel_rfl),?_⟩
  exact trivial
 case h1=>
  iterate 4 refine ⟨.inr ⟨_,_,rfl,rfl,by simp [zed,z6,Zk,zN,Zh,ZH,zdZ,zaM,zca,zes,zdz,zai,zb2,zd0,zfl,zcP,zdy,zaL,Zo,zw,zau,zaj,zc5,zbp,zb8,zK,zaR,zaY,zaZ,za0,za1,zbD,zcO,zaJ,zaI,zcj,zbG,zcQ,zcE,trD,St.ev,St.tmp,St.put,St.h,St.new,ze,zbq,ZA,zcB,zaS,Zx,zaw,Zq,ZG,zex,zaf,zbF,zbE,zaD,zb9,zbV,zae,za2,za3,za4,za5,za6,za7,za8,za9,zbi,zbj,zba,zbb,zbc,zbd,zbe,zbf,zbg,zbh,Zj,zao,St.start,Z6,zbm,hl2,hni,hil,hi,hget,zi]<;>with_reducible rfl⟩,?_⟩
  iterate 15 refine ⟨.inl (by kernel_rfl),?_⟩
  iterate 2 refine ⟨.inr ⟨_,_,rfl,rfl,by simp [zed,z6,Zk,zN,Zh,ZH,zdZ,zaM,zca,zes,zdz,zai,zb2,zd0,zfl,zcP,zdy,zaL,Zo,zw,zau,zaj,zc5,zbp,zb8,zK,zaR,zaY,zaZ,za0,za1,zbD,zcO,zaJ,zaI,zcj,zbG,zcQ,zcE,trD,St.ev,St.tmp,St.put,St.h,St.new,ze,zbq,ZA,zcB,zaS,Zx,zaw,Zq,ZG,zex,zaf,zbF,zbE,zaD,zb9,zbV,zae,za2,za3,za4,za5,za6,za7,za8,za9,zbi,zbj,zba,zbb,zbc,zbd,zbe,zbf,zbg,zbh,Zj,zao,St.start,Z6,zbm,hl2,hni,hil,hi,hget,zi]<;>with_reducible rfl⟩,?_⟩
  exact trivial
 case he=>
  intro o ho σ e0 e1 e2 K hK
  cases ho
  exact zme (d:=39) (ρ:=[(1000000000,1000000001)]) (t:=0) (hR:=zea (.tr l[i]) y) (hp:=rfl) (hd:=rfl) (hdk:=rfl) (hc:=by simp [zed,z6,Zk,zN,Zh,ZH,zdZ,zaM,zca,zes,zdz,zai,zb2,zd0,zfl,zcP,zdy,zaL,Zo,zw,zau,zaj,zc5,zbp,zb8,zK,zaR,zaY,zaZ,za0,za1,zbD,zcO,zaJ,zaI,zcj,zbG,zcQ,zcE,trD,St.ev,St.tmp,St.put,St.h,St.new,ze,zbq,ZA,zcB,zaS,Zx,zaw,Zq,ZG,zex,zaf,zbF,zbE,zaD,zb9,zbV,zae,za2,za3,za4,za5,za6,za7,za8,za9,zbi,zbj,zba,zbb,zbc,zbd,zbe,zbf,zbg,zbh,Zj,zao,St.start,Z6,zbm,hl2,hni,hil,hi,hget,zi]<;>first|exact ⟨rfl,rfl,rfl⟩|exact ⟨rfl,rfl⟩) (hx:=by simp [Z5,noT,zm9,coL,coC,zcU,zgx,zcT,zf,zjd,zh6,inK,inR,zht,zcA,zcS,zbs,zc8,Zc,zo,zed,Av.ren,Ow.ren,Cl.ren,Av.ids,Ow.ids,Cl.ids,Av.fix,Ow.fix,Cl.fix,ZM,ZQ,zZ,St.back,zed,z6,Zk,zN,Zh,ZH,zdZ,zaM,zca,zes,zdz,zai,zb2,zd0,zfl,zcP,zdy,zaL,Zo,zw,zau,zaj,zc5,zbp,zb8,zK,zaR,zaY,zaZ,za0,za1,zbD,zcO,zaJ,zaI,zcj,zbG,zcQ,zcE,trD,St.ev,St.tmp,St.put,St.h,St.new,ze,zbq,ZA,zcB,zaS,Zx,zaw,Zq,ZG,zex,zaf,zbF,zbE,zaD,zb9,zbV,zae,za2,za3,za4,za5,za6,za7,za8,za9,zbi,zbj,zba,zbb,zbc,zbd,zbe,zbf,zbg,zbh,Zj,zao,St.start,Z6,zbm,hl2,hni,hil,hi,hget,zi]) (ho:=by simp [zcm,zd1,zh6,inK,inR,zht,zcA,zcS,zbs,zc8,Zc,zo,zed,Av.ren,Ow.ren,Cl.ren,Av.ids,Ow.ids,Cl.ids,Av.fix,Ow.fix,Cl.fix,ZM,ZQ,zZ,St.back,zed,z6,Zk,zN,Zh,ZH,zdZ,zaM,zca,zes,zdz,zai,zb2,zd0,zfl,zcP,zdy,zaL,Zo,zw,zau,zaj,zc5,zbp,zb8,zK,zaR,zaY,zaZ,za0,za1,zbD,zcO,zaJ,zaI,zcj,zbG,zcQ,zcE,trD,St.ev,St.tmp,St.put,St.h,St.new,ze,zbq,ZA,zcB,zaS,Zx,zaw,Zq,ZG,zex,zaf,zbF,zbE,zaD,zb9,zbV,zae,za2,za3,za4,za5,za6,za7,za8,za9,zbi,zbj,zba,zbb,zbc,zbd,zbe,zbf,zbg,zbh,Zj,zao,St.start,Z6,zbm,hl2,hni,hil,hi,hget,zi]) (hh:=by simp [zcb,zh6,inK,inR,zht,zcA,zcS,zbs,zc8,Zc,zo,zed,Av.ren,Ow.ren,Cl.ren,Av.ids,Ow.ids,Cl.ids,Av.fix,Ow.fix,Cl.fix,ZM,ZQ,zZ,St.back,zed,z6,Zk,zN,Zh,ZH,zdZ,zaM,zca,zes,zdz,zai,zb2,zd0,zfl,zcP,zdy,zaL,Zo,zw,zau,zaj,zc5,zbp,zb8,zK,zaR,zaY,zaZ,za0,za1,zbD,zcO,zaJ,zaI,zcj,zbG,zcQ,zcE,trD,St.ev,St.tmp,St.put,St.h,St.new,ze,zbq,ZA,zcB,zaS,Zx,zaw,Zq,ZG,zex,zaf,zbF,zbE,zaD,zb9,zbV,zae,za2,za3,za4,za5,za6,za7,za8,za9,zbi,zbj,zba,zbb,zbc,zbd,zbe,zbf,zbg,zbh,Zj,zao,St.start,Z6,zbm,hl2,hni,hil,hi,hget,zi]) (hb:=by simp [zh6,inK,inR,zht,zcA,zcS,zbs,zc8,Zc,zo,zed,Av.ren,Ow.ren,Cl.ren,Av.ids,Ow.ids,Cl.ids,Av.fix,Ow.fix,Cl.fix,ZM,ZQ,zZ,St.back,zed,z6,Zk,zN,Zh,ZH,zdZ,zaM,zca,zes,zdz,zai,zb2,zd0,zfl,zcP,zdy,zaL,Zo,zw,zau,zaj,zc5,zbp,zb8,zK,zaR,zaY,zaZ,za0,za1,zbD,zcO,zaJ,zaI,zcj,zbG,zcQ,zcE,trD,St.ev,St.tmp,St.put,St.h,St.new,ze,zbq,ZA,zcB,zaS,Zx,zaw,Zq,ZG,zex,zaf,zbF,zbE,zaD,zb9,zbV,zae,za2,za3,za4,za5,za6,za7,za8,za9,zbi,zbj,zba,zbb,zbc,zbd,zbe,zbf,zbg,zbh,Zj,zao,St.start,Z6,zbm,hl2,hni,hil,hi,hget,zi]) (h1:=by simp [zh6,inK,inR,zht,zcA,zcS,zbs,zc8,Zc,zo,zed,Av.ren,Ow.ren,Cl.ren,Av.ids,Ow.ids,Cl.ids,Av.fix,Ow.fix,Cl.fix,ZM,ZQ,zZ,St.back,zed,z6,Zk,zN,Zh,ZH,zdZ,zaM,zca,zes,zdz,zai,zb2,zd0,zfl,zcP,zdy,zaL,Zo,zw,zau,zaj,zc5,zbp,zb8,zK,zaR,zaY,zaZ,za0,za1,zbD,zcO,zaJ,zaI,zcj,zbG,zcQ,zcE,trD,St.ev,St.tmp,St.put,St.h,St.new,ze,zbq,ZA,zcB,zaS,Zx,zaw,Zq,ZG,zex,zaf,zbF,zbE,zaD,zb9,zbV,zae,za2,za3,za4,za5,za6,za7,za8,za9,zbi,zbj,zba,zbb,zbc,zbd,zbe,zbf,zbg,zbh,Zj,zao,St.start,Z6,zbm,hl2,hni,hil,hi,hget,zi]) (hv:=by simp [zh6,inK,inR,zht,zcA,zcS,zbs,zc8,Zc,zo,zed,Av.ren,Ow.ren,Cl.ren,Av.ids,Ow.ids,Cl.ids,Av.fix,Ow.fix,Cl.fix,ZM,ZQ,zZ,St.back,zed,z6,Zk,zN,Zh,ZH,zdZ,zaM,zca,zes,zdz,zai,zb2,zd0,zfl,zcP,zdy,zaL,Zo,zw,zau,zaj,zc5,zbp,zb8,zK,zaR,zaY,zaZ,za0,za1,zbD,zcO,zaJ,zaI,zcj,zbG,zcQ,zcE,trD,St.ev,St.tmp,St.put,St.h,St.new,ze,zbq,ZA,zcB,zaS,Zx,zaw,Zq,ZG,zex,zaf,zbF,zbE,zaD,zb9,zbV,zae,za2,za3,za4,za5,za6,za7,za8,za9,zbi,zbj,zba,zbb,zbc,zbd,zbe,zbf,zbg,zbh,Zj,zao,St.start,Z6,zbm,hl2,hni,hil,hi,hget,zi]<;>with_reducible rfl) (hfix:=by simp [zh6,inK,inR,zht,zcA,zcS,zbs,zc8,Zc,zo,zed,Av.ren,Ow.ren,Cl.ren,Av.ids,Ow.ids,Cl.ids,Av.fix,Ow.fix,Cl.fix,ZM,ZQ,zZ,St.back,zed,z6,Zk,zN,Zh,ZH,zdZ,zaM,zca,zes,zdz,zai,zb2,zd0,zfl,zcP,zdy,zaL,Zo,zw,zau,zaj,zc5,zbp,zb8,zK,zaR,zaY,zaZ,za0,za1,zbD,zcO,zaJ,zaI,zcj,zbG,zcQ,zcE,trD,St.ev,St.tmp,St.put,St.h,St.new,ze,zbq,ZA,zcB,zaS,Zx,zaw,Zq,ZG,zex,zaf,zbF,zbE,zaD,zb9,zbV,zae,za2,za3,za4,za5,za6,za7,za8,za9,zbi,zbj,zba,zbb,zbc,zbd,zbe,zbf,zbg,zbh,Zj,zao,St.start,Z6,zbm,hl2,hni,hil,hi,hget,zi]) e0 e1 e2 K hK
 refine ⟨rfl,?_⟩
 (repeat' (first|(with_reducible first|refine zl (fun _=>?_) (fun _=>?_)|refine zk (fun _=>?_) (fun _=>?_)|refine zm zd (by kernel_rfl) ?_|exact zc rfl)|(simp -dsimp [hl2,hni,hil,hi,hget])));(all_goals try with_reducible refine zc ?_)
 all_goals exact ⟨rfl,rfl⟩
end Go.Smd
end
