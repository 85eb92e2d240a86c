/- Part 16. -/
import Derived.Test.YtdgnolbdcmgfoaaGreatQD14
import Derived.Test.YtdgnolbdcmgfoaaGreatQD15
import Derived.Test.YtdgnolbdcmgfoaaGreatQD12
set_option linter.unusedVariables false
set_option linter.unusedSimpArgs false
set_option maxRecDepth 100000
set_option maxHeartbeats 8000000
section
namespace Go.Smd
open Go.RowKit Go.Proofs Go.Proofs.Tryz
theorem zfT (x y:D):AProc prog 182 [.c (.own 1000000000 0),.c (.d x)] [(1000000000,.cells [.d y] 321)] (fun r own'=>r= .c (.io 271 1000000000 0)∧own'= [(1000000000,.cells [.d x] 321)]):=by
 refine zaj [] func182 (by kernel_rfl) rfl ntmps182 results182 (Nat.le_of_ble_eq_true (by kernel_rfl)) ?_;intro hok w0 S0
 (repeat' (first|(with_reducible first|refine zj (fun _=>?_) (fun _=>?_)|refine zi (fun _=>?_) (fun _=>?_)|refine zk zb (by kernel_rfl) ?_|exact za rfl)|(simp -dsimp)));(all_goals try with_reducible refine za ?_)
 all_goals exact ⟨rfl,rfl⟩
theorem AWp.at {P:Program}{N:Nat}{w0:World}{S0:Env}{c:Code}{Q:Exit→St→Prop}{σ τ:St}(h:σ=τ)(k:AWp P N w0 S0 c Q τ):AWp P N w0 S0 c Q σ:=h▸k
abbrev zvq (l:List Tree):D:=.sl 20 (l.map fun t=>[.tr t])
abbrev zk1 (l:List Tree)(v:Nat)(i:Int):Ow:=.cells [.d (zvq l),.own v 0,.d (.v (.int .i64 i))] 473
abbrev cVU (y:D):Ow:=.cells [.d y] 321
theorem zk2 (l:List Tree)(i:Int)(hi: -1≤i)(hi2:i<4000000000000000000)(hl:l.length≤140737488351232)(y:D):AProc prog 372 [.c (.own 1000000000 0)] [(1000000000,zk1 l 1000000001 i),(1000000001,cVU y)]
  (fun r own'=>r=aV (.bool (decide (i+1<l.length)))∧own'= [(1000000000,zk1 l 1000000001 (i+1)),(1000000001,cVU y)]):=by
 have hw:IntKind.wrap .i64 (i+1)=i+1:=zq (by omega) (by omega)
 have hl2:l.length≤9223372036854775807:=by omega
 refine zaj [(2,([],[(0,[]),(1,[]),(2,[]),(3,[]),(4,[]),(5,[]),(6,[]),(7,[]),(8,[]),(9,[]),(10,[])]))] func372 (by kernel_rfl) rfl ntmps372 results372 (Nat.le_of_ble_eq_true (by kernel_rfl)) ?_;intro hok w0 S0
 (repeat' (first|(with_reducible first|refine zj (fun _=>?_) (fun _=>?_)|refine zi (fun _=>?_) (fun _=>?_)|refine zk zb (by kernel_rfl) ?_|exact za rfl)|(simp -dsimp [hw,hl2])));(all_goals try with_reducible refine za ?_)
 all_goals exact ⟨rfl,rfl⟩
theorem zrn (l:List Tree)(i:Nat)(hi:i<l.length)(hl:l.length≤140737488351232)(y:D):AProc prog 371 [.c (.own 1000000000 0)] [(1000000000,zk1 l 1000000001 i),(1000000001,cVU y)]
  (fun r own'=>r= .tup [(false,[.d (.v (.int .i64 i))]),(false,[.io 271 1000000001 0])]∧own'= [(1000000001,cVU (.tr l[i])),(1000000000,zk1 l 1000000001 i)]):=by
 have hl2:l.length≤9223372036854775807:=by omega
 have hni:¬((i:Int)<0):=by omega
 have hil:¬((l.length:Int)≤i):=by omega
 have hget:(l.map fun t=>[D.tr t])[i]? =some [.tr l[i]]:=by simp [hi]
 refine zaj [(3,([],[(0,[]),(1,[]),(2,[]),(3,[]),(4,[]),(5,[]),(6,[]),(7,[]),(8,[]),(9,[])]))] func371 (by kernel_rfl) rfl ntmps371 results371 (Nat.le_of_ble_eq_true (by kernel_rfl)) ?_;intro hok w0 S0
 (repeat' (first|(with_reducible first|refine zj (fun _=>?_) (fun _=>?_)|refine zi (fun _=>?_) (fun _=>?_)|refine zk zb (by kernel_rfl) ?_|exact za rfl)|(simp -dsimp [hl2,hni,hil,hi,hget])));(all_goals try with_reducible refine za ?_)
 refine zcB ?_
 refine zni zb 18 [0,1,2,3,4,5,6,7,8,9,10,11,12,13,14,15,16,17,18,19,20] [(21,?m21),(22,?m22),(23,?m23),(24,?m24),(25,?m25),(26,?m26),(27,?m27),(28,?m28),(29,?m29),(30,?m30),(31,?m31),(32,?m32),(33,?m33),(34,?m34),(35,?m35),(36,?m36),(37,?m37),(38,?m38),(39,?m39),(2,?m2),(3,?m3)] ([(1000000001,cVU (.tr l[i])),(1000000000,zk1 l 1000000001 i)]) (by kernel_rfl) ?h0 ?h1 ?he ?hk
 case h0=>
  iterate 18 refine ⟨.inr ⟨_,_,rfl,rfl,by simp [zed,zW,Zd,zJ,Ze,Zy,zdX,zaJ,zb1,zeo,zdu,zaa,zbV,zdY,ze3,zcK,zdt,zaI,Zh,zy,zam,zab,zcZ,zbo,zbZ,Zg,zaS,zaY,zaZ,za0,za1,zbE,zcJ,zaH,zaG,zb9,zbH,zcL,zcy,trD,St.ev,St.tmp,St.put,St.h,St.new,zd,zbr,Zq,zcv,zaT,Zm,zap,Zi,Zw,zes,Z9,zbG,zbF,zaB,zb0,zbQ,Z8,za2,za3,za4,za5,za6,za7,za8,za9,zbi,zbj,zba,zbb,zbc,zbd,zbe,zbf,zbg,zbh,z7,Z7,St.start,ZZ,zbk,hl2,hni,hil,hi,hget,ze]<;>with_reducible rfl⟩,?_⟩
  iterate 3 refine ⟨.inl (by kernel_rfl),?_⟩
  exact trivial
 case h1=>
  iterate 4 refine ⟨.inr ⟨_,_,rfl,rfl,by simp [zed,zW,Zd,zJ,Ze,Zy,zdX,zaJ,zb1,zeo,zdu,zaa,zbV,zdY,ze3,zcK,zdt,zaI,Zh,zy,zam,zab,zcZ,zbo,zbZ,Zg,zaS,zaY,zaZ,za0,za1,zbE,zcJ,zaH,zaG,zb9,zbH,zcL,zcy,trD,St.ev,St.tmp,St.put,St.h,St.new,zd,zbr,Zq,zcv,zaT,Zm,zap,Zi,Zw,zes,Z9,zbG,zbF,zaB,zb0,zbQ,Z8,za2,za3,za4,za5,za6,za7,za8,za9,zbi,zbj,zba,zbb,zbc,zbd,zbe,zbf,zbg,zbh,z7,Z7,St.start,ZZ,zbk,hl2,hni,hil,hi,hget,ze]<;>with_reducible rfl⟩,?_⟩
  iterate 15 refine ⟨.inl (by kernel_rfl),?_⟩
  iterate 2 refine ⟨.inr ⟨_,_,rfl,rfl,by simp [zed,zW,Zd,zJ,Ze,Zy,zdX,zaJ,zb1,zeo,zdu,zaa,zbV,zdY,ze3,zcK,zdt,zaI,Zh,zy,zam,zab,zcZ,zbo,zbZ,Zg,zaS,zaY,zaZ,za0,za1,zbE,zcJ,zaH,zaG,zb9,zbH,zcL,zcy,trD,St.ev,St.tmp,St.put,St.h,St.new,zd,zbr,Zq,zcv,zaT,Zm,zap,Zi,Zw,zes,Z9,zbG,zbF,zaB,zb0,zbQ,Z8,za2,za3,za4,za5,za6,za7,za8,za9,zbi,zbj,zba,zbb,zbc,zbd,zbe,zbf,zbg,zbh,z7,Z7,St.start,ZZ,zbk,hl2,hni,hil,hi,hget,ze]<;>with_reducible rfl⟩,?_⟩
  exact trivial
 case he=>
  intro o ho σ e0 e1 e2 K hK
  cases ho
  exact zl3 (d:=39) (ρ:=[(1000000000,1000000001)]) (t:=0) (hR:=zfT (.tr l[i]) y) (hp:=rfl) (hd:=rfl) (hdk:=rfl) (hc:=by simp [zed,zW,Zd,zJ,Ze,Zy,zdX,zaJ,zb1,zeo,zdu,zaa,zbV,zdY,ze3,zcK,zdt,zaI,Zh,zy,zam,zab,zcZ,zbo,zbZ,Zg,zaS,zaY,zaZ,za0,za1,zbE,zcJ,zaH,zaG,zb9,zbH,zcL,zcy,trD,St.ev,St.tmp,St.put,St.h,St.new,zd,zbr,Zq,zcv,zaT,Zm,zap,Zi,Zw,zes,Z9,zbG,zbF,zaB,zb0,zbQ,Z8,za2,za3,za4,za5,za6,za7,za8,za9,zbi,zbj,zba,zbb,zbc,zbd,zbe,zbf,zbg,zbh,z7,Z7,St.start,ZZ,zbk,hl2,hni,hil,hi,hget,ze]<;>first|exact ⟨rfl,rfl,rfl⟩|exact ⟨rfl,rfl⟩) (hx:=by simp [ZY,noT,zmU,coL,coC,zcO,zgg,zcN,zc,ziW,zhR,inK,inR,zha,zcu,zcM,zbt,zc2,zZ,zp,zed,Av.ren,Ow.ren,Cl.ren,Av.ids,Ow.ids,Cl.ids,Av.fix,Ow.fix,Cl.fix,ZC,ZI,zT,St.back,zed,zW,Zd,zJ,Ze,Zy,zdX,zaJ,zb1,zeo,zdu,zaa,zbV,zdY,ze3,zcK,zdt,zaI,Zh,zy,zam,zab,zcZ,zbo,zbZ,Zg,zaS,zaY,zaZ,za0,za1,zbE,zcJ,zaH,zaG,zb9,zbH,zcL,zcy,trD,St.ev,St.tmp,St.put,St.h,St.new,zd,zbr,Zq,zcv,zaT,Zm,zap,Zi,Zw,zes,Z9,zbG,zbF,zaB,zb0,zbQ,Z8,za2,za3,za4,za5,za6,za7,za8,za9,zbi,zbj,zba,zbb,zbc,zbd,zbe,zbf,zbg,zbh,z7,Z7,St.start,ZZ,zbk,hl2,hni,hil,hi,hget,ze]) (ho:=by simp [zce,zdZ,zhR,inK,inR,zha,zcu,zcM,zbt,zc2,zZ,zp,zed,Av.ren,Ow.ren,Cl.ren,Av.ids,Ow.ids,Cl.ids,Av.fix,Ow.fix,Cl.fix,ZC,ZI,zT,St.back,zed,zW,Zd,zJ,Ze,Zy,zdX,zaJ,zb1,zeo,zdu,zaa,zbV,zdY,ze3,zcK,zdt,zaI,Zh,zy,zam,zab,zcZ,zbo,zbZ,Zg,zaS,zaY,zaZ,za0,za1,zbE,zcJ,zaH,zaG,zb9,zbH,zcL,zcy,trD,St.ev,St.tmp,St.put,St.h,St.new,zd,zbr,Zq,zcv,zaT,Zm,zap,Zi,Zw,zes,Z9,zbG,zbF,zaB,zb0,zbQ,Z8,za2,za3,za4,za5,za6,za7,za8,za9,zbi,zbj,zba,zbb,zbc,zbd,zbe,zbf,zbg,zbh,z7,Z7,St.start,ZZ,zbk,hl2,hni,hil,hi,hget,ze]) (hh:=by simp [zb2,zhR,inK,inR,zha,zcu,zcM,zbt,zc2,zZ,zp,zed,Av.ren,Ow.ren,Cl.ren,Av.ids,Ow.ids,Cl.ids,Av.fix,Ow.fix,Cl.fix,ZC,ZI,zT,St.back,zed,zW,Zd,zJ,Ze,Zy,zdX,zaJ,zb1,zeo,zdu,zaa,zbV,zdY,ze3,zcK,zdt,zaI,Zh,zy,zam,zab,zcZ,zbo,zbZ,Zg,zaS,zaY,zaZ,za0,za1,zbE,zcJ,zaH,zaG,zb9,zbH,zcL,zcy,trD,St.ev,St.tmp,St.put,St.h,St.new,zd,zbr,Zq,zcv,zaT,Zm,zap,Zi,Zw,zes,Z9,zbG,zbF,zaB,zb0,zbQ,Z8,za2,za3,za4,za5,za6,za7,za8,za9,zbi,zbj,zba,zbb,zbc,zbd,zbe,zbf,zbg,zbh,z7,Z7,St.start,ZZ,zbk,hl2,hni,hil,hi,hget,ze]) (hb:=by simp [zhR,inK,inR,zha,zcu,zcM,zbt,zc2,zZ,zp,zed,Av.ren,Ow.ren,Cl.ren,Av.ids,Ow.ids,Cl.ids,Av.fix,Ow.fix,Cl.fix,ZC,ZI,zT,St.back,zed,zW,Zd,zJ,Ze,Zy,zdX,zaJ,zb1,zeo,zdu,zaa,zbV,zdY,ze3,zcK,zdt,zaI,Zh,zy,zam,zab,zcZ,zbo,zbZ,Zg,zaS,zaY,zaZ,za0,za1,zbE,zcJ,zaH,zaG,zb9,zbH,zcL,zcy,trD,St.ev,St.tmp,St.put,St.h,St.new,zd,zbr,Zq,zcv,zaT,Zm,zap,Zi,Zw,zes,Z9,zbG,zbF,zaB,zb0,zbQ,Z8,za2,za3,za4,za5,za6,za7,za8,za9,zbi,zbj,zba,zbb,zbc,zbd,zbe,zbf,zbg,zbh,z7,Z7,St.start,ZZ,zbk,hl2,hni,hil,hi,hget,ze]) (h1:=by simp [zhR,inK,inR,zha,zcu,zcM,zbt,zc2,zZ,zp,zed,Av.ren,Ow.ren,Cl.ren,Av.ids,Ow.ids,Cl.ids,Av.fix,Ow.fix,Cl.fix,ZC,ZI,zT,St.back,zed,zW,Zd,zJ,Ze,Zy,zdX,zaJ,zb1,zeo,zdu,zaa,zbV,zdY,ze3,zcK,zdt,zaI,Zh,zy,zam,zab,zcZ,zbo,zbZ,Zg,zaS,zaY,zaZ,za0,za1,zbE,zcJ,zaH,zaG,zb9,zbH,zcL,zcy,trD,St.ev,St.tmp,St.put,St.h,St.new,zd,zbr,Zq,zcv,zaT,Zm,zap,Zi,Zw,zes,Z9,zbG,zbF,zaB,zb0,zbQ,Z8,za2,za3,za4,za5,za6,za7,za8,za9,zbi,zbj,zba,zbb,zbc,zbd,zbe,zbf,zbg,zbh,z7,Z7,St.start,ZZ,zbk,hl2,hni,hil,hi,hget,ze]) (hv:=by simp [zhR,inK,inR,zha,zcu,zcM,zbt,zc2,zZ,zp,zed,Av.ren,Ow.ren,Cl.ren,Av.ids,Ow.ids,Cl.ids,Av.fix,Ow.fix,Cl.fix,ZC,ZI,zT,St.back,zed,zW,Zd,zJ,Ze,Zy,zdX,zaJ,zb1,zeo,zdu,zaa,zbV,zdY,ze3,zcK,zdt,zaI,Zh,zy,zam,zab,zcZ,zbo,zbZ,Zg,zaS,zaY,zaZ,za0,za1,zbE,zcJ,zaH,zaG,zb9,zbH,zcL,zcy,trD,St.ev,St.tmp,St.put,St.h,St.new,zd,zbr,Zq,zcv,zaT,Zm,zap,Zi,Zw,zes,Z9,zbG,zbF,zaB,zb0,zbQ,Z8,za2,za3,za4,za5,za6,za7,za8,za9,zbi,zbj,zba,zbb,zbc,zbd,zbe,zbf,zbg,zbh,z7,Z7,St.start,ZZ,zbk,hl2,hni,hil,hi,hget,ze]<;>with_reducible rfl) (hfix:=by simp [zhR,inK,inR,zha,zcu,zcM,zbt,zc2,zZ,zp,zed,Av.ren,Ow.ren,Cl.ren,Av.ids,Ow.ids,Cl.ids,Av.fix,Ow.fix,Cl.fix,ZC,ZI,zT,St.back,zed,zW,Zd,zJ,Ze,Zy,zdX,zaJ,zb1,zeo,zdu,zaa,zbV,zdY,ze3,zcK,zdt,zaI,Zh,zy,zam,zab,zcZ,zbo,zbZ,Zg,zaS,zaY,zaZ,za0,za1,zbE,zcJ,zaH,zaG,zb9,zbH,zcL,zcy,trD,St.ev,St.tmp,St.put,St.h,St.new,zd,zbr,Zq,zcv,zaT,Zm,zap,Zi,Zw,zes,Z9,zbG,zbF,zaB,zb0,zbQ,Z8,za2,za3,za4,za5,za6,za7,za8,za9,zbi,zbj,zba,zbb,zbc,zbd,zbe,zbf,zbg,zbh,z7,Z7,St.start,ZZ,zbk,hl2,hni,hil,hi,hget,ze]) e0 e1 e2 K hK
 refine ⟨rfl,?_⟩
 (repeat' (first|(with_reducible first|refine zj (fun _=>?_) (fun _=>?_)|refine zi (fun _=>?_) (fun _=>?_)|refine zk zb (by kernel_rfl) ?_|exact za rfl)|(simp -dsimp [hl2,hni,hil,hi,hget])));(all_goals try with_reducible refine za ?_)
 all_goals exact ⟨rfl,rfl⟩
end Go.Smd
end
