/- Part 16 of the proof: Vb. -/
import Derived.Test.YtdgnolbdcmgfoaaGreatQR14
import Derived.Test.YtdgnolbdcmgfoaaGreatQR15
import Derived.Test.YtdgnolbdcmgfoaaGreatQR12
set_option linter.unusedVariables false
set_option linter.unusedSimpArgs false
set_option maxRecDepth 100000
set_option maxHeartbeats 8000000
section
namespace Go.Smd
open Go.RowKit Go.Proofs Go.Proofs.Tryz
theorem zgr (x y:D):AProc prog 182 [.c (.own 1000000000 0),.c (.d x)] [(1000000000,.cells [.d y] 321)] (fun r own'=>r= .c (.io 271 1000000000 0)∧own'= [(1000000000,.cells [.d x] 321)]):=by
 refine zaI [] func182 (by kernel_rfl) rfl ntmps182 results182 (Nat.le_of_ble_eq_true (by kernel_rfl)) ?_;intro hok w0 S0
 (repeat' (first|(with_reducible first|refine zj (fun _=>?_) (fun _=>?_)|refine zi (fun _=>?_) (fun _=>?_)|refine zk zb (by kernel_rfl) ?_|exact za rfl)|(simp -dsimp)));(all_goals try with_reducible refine za ?_)
 all_goals exact ⟨rfl,rfl⟩
theorem AWp.at {P:Program}{N:Nat}{w0:World}{S0:Env}{c:Code}{Q:Exit→St→Prop}{σ τ:St}(h:σ=τ)(k:AWp P N w0 S0 c Q τ):AWp P N w0 S0 c Q σ:=h▸k
abbrev zwy (l:List Tree):D:=.sl 20 (l.map fun t=>[.tr t])
abbrev zlF (l:List Tree)(v:Nat)(i:Int):Ow:=.cells [.d (zwy l),.own v 0,.d (.v (.int .i64 i))] 473
abbrev cVU (y:D):Ow:=.cells [.d y] 321
theorem zlG (l:List Tree)(i:Int)(hi: -1≤i)(hi2:i<4000000000000000000)(hl:l.length≤140737488351232)(y:D):AProc prog 372 [.c (.own 1000000000 0)] [(1000000000,zlF l 1000000001 i),(1000000001,cVU y)]
  (fun r own'=>r=aV (.bool (decide (i+1<l.length)))∧own'= [(1000000000,zlF l 1000000001 (i+1)),(1000000001,cVU y)]):=by
 have hw:IntKind.wrap .i64 (i+1)=i+1:=zn (by omega) (by omega)
 have hl2:l.length≤9223372036854775807:=by omega
 refine zaI [(2,([],[(0,[]),(1,[]),(2,[]),(3,[]),(4,[]),(5,[]),(6,[]),(7,[]),(8,[]),(9,[]),(10,[])]))] func372 (by kernel_rfl) rfl ntmps372 results372 (Nat.le_of_ble_eq_true (by kernel_rfl)) ?_;intro hok w0 S0
 (repeat' (first|(with_reducible first|refine zj (fun _=>?_) (fun _=>?_)|refine zi (fun _=>?_) (fun _=>?_)|refine zk zb (by kernel_rfl) ?_|exact za rfl)|(simp -dsimp [hw,hl2])));(all_goals try with_reducible refine za ?_)
 all_goals exact ⟨rfl,rfl⟩
theorem zst (l:List Tree)(i:Nat)(hi:i<l.length)(hl:l.length≤140737488351232)(y:D):AProc prog 371 [.c (.own 1000000000 0)] [(1000000000,zlF l 1000000001 i),(1000000001,cVU y)]
  (fun r own'=>r= .tup [(false,[.d (.v (.int .i64 i))]),(false,[.io 271 1000000001 0])]∧own'= [(1000000001,cVU (.tr l[i])),(1000000000,zlF l 1000000001 i)]):=by
 have hl2:l.length≤9223372036854775807:=by omega
 have hni:¬((i:Int)<0):=by omega
 have hil:¬((l.length:Int)≤i):=by omega
 have hget:(l.map fun t=>[D.tr t])[i]? =some [.tr l[i]]:=by simp [hi]
 refine zaI [(3,([],[(0,[]),(1,[]),(2,[]),(3,[]),(4,[]),(5,[]),(6,[]),(7,[]),(8,[]),(9,[])]))] func371 (by kernel_rfl) rfl ntmps371 results371 (Nat.le_of_ble_eq_true (by kernel_rfl)) ?_;intro hok w0 S0
 (repeat' (first|(with_reducible first|refine zj (fun _=>?_) (fun _=>?_)|refine zi (fun _=>?_) (fun _=>?_)|refine zk zb (by kernel_rfl) ?_|exact za rfl)|(simp -dsimp [hl2,hni,hil,hi,hget])));(all_goals try with_reducible refine za ?_)
 refine zcT ?_
 refine zn9 zb 18 [0,1,2,3,4,5,6,7,8,9,10,11,12,13,14,15,16,17,18,19,20] [(21,?m21),(22,?m22),(23,?m23),(24,?m24),(25,?m25),(26,?m26),(27,?m27),(28,?m28),(29,?m29),(30,?m30),(31,?m31),(32,?m32),(33,?m33),(34,?m34),(35,?m35),(36,?m36),(37,?m37),(38,?m38),(39,?m39),(2,?m2),(3,?m3)] ([(1000000001,cVU (.tr l[i])),(1000000000,zlF l 1000000001 i)]) (by kernel_rfl) ?h0 ?h1 ?he ?hk
 case h0=>
  iterate 18 refine ⟨.inr ⟨_,_,rfl,rfl,by simp [zed,z7,Zg,zO,Zh,ZH,zec,zaW,zcd,zeF,zdQ,zan,zb6,zee,zfx,zc2,zdP,zaV,Zk,zz,zax,zao,zdj,zbA,zcb,Zj,za2,za9,zba,zbb,zbc,zbO,zc1,zaT,zaS,zcp,zbR,zc3,zcQ,trD,St.ev,St.tmp,St.put,St.h,St.new,zd,zbB,Zx,zcN,za3,Zu,zaz,Zm,ZE,zeJ,zam,zbQ,zbP,zaL,zcc,zb1,zal,zbd,zbe,zbf,zbg,zbh,zbi,zbj,zbk,zbt,zbu,zbl,zbm,zbn,zbo,zbp,zbq,zbr,zbs,Zc,zak,St.start,zad,zbv,hl2,hni,hil,hi,hget,zg]<;>with_reducible rfl⟩,?_⟩
  iterate 3 refine ⟨.inl (by kernel_rfl),?_⟩
  exact trivial
 case h1=>
  iterate 4 refine ⟨.inr ⟨_,_,rfl,rfl,by simp [zed,z7,Zg,zO,Zh,ZH,zec,zaW,zcd,zeF,zdQ,zan,zb6,zee,zfx,zc2,zdP,zaV,Zk,zz,zax,zao,zdj,zbA,zcb,Zj,za2,za9,zba,zbb,zbc,zbO,zc1,zaT,zaS,zcp,zbR,zc3,zcQ,trD,St.ev,St.tmp,St.put,St.h,St.new,zd,zbB,Zx,zcN,za3,Zu,zaz,Zm,ZE,zeJ,zam,zbQ,zbP,zaL,zcc,zb1,zal,zbd,zbe,zbf,zbg,zbh,zbi,zbj,zbk,zbt,zbu,zbl,zbm,zbn,zbo,zbp,zbq,zbr,zbs,Zc,zak,St.start,zad,zbv,hl2,hni,hil,hi,hget,zg]<;>with_reducible rfl⟩,?_⟩
  iterate 15 refine ⟨.inl (by kernel_rfl),?_⟩
  iterate 2 refine ⟨.inr ⟨_,_,rfl,rfl,by simp [zed,z7,Zg,zO,Zh,ZH,zec,zaW,zcd,zeF,zdQ,zan,zb6,zee,zfx,zc2,zdP,zaV,Zk,zz,zax,zao,zdj,zbA,zcb,Zj,za2,za9,zba,zbb,zbc,zbO,zc1,zaT,zaS,zcp,zbR,zc3,zcQ,trD,St.ev,St.tmp,St.put,St.h,St.new,zd,zbB,Zx,zcN,za3,Zu,zaz,Zm,ZE,zeJ,zam,zbQ,zbP,zaL,zcc,zb1,zal,zbd,zbe,zbf,zbg,zbh,zbi,zbj,zbk,zbt,zbu,zbl,zbm,zbn,zbo,zbp,zbq,zbr,zbs,Zc,zak,St.start,zad,zbv,hl2,hni,hil,hi,hget,zg]<;>with_reducible rfl⟩,?_⟩
  exact trivial
 case he=>
  intro o ho σ e0 e1 e2 K hK
  cases ho
  exact zmJ (d:=39) (ρ:=[(1000000000,1000000001)]) (t:=0) (hR:=zgr (.tr l[i]) y) (hp:=rfl) (hd:=rfl) (hdk:=rfl) (hc:=by simp [zed,z7,Zg,zO,Zh,ZH,zec,zaW,zcd,zeF,zdQ,zan,zb6,zee,zfx,zc2,zdP,zaV,Zk,zz,zax,zao,zdj,zbA,zcb,Zj,za2,za9,zba,zbb,zbc,zbO,zc1,zaT,zaS,zcp,zbR,zc3,zcQ,trD,St.ev,St.tmp,St.put,St.h,St.new,zd,zbB,Zx,zcN,za3,Zu,zaz,Zm,ZE,zeJ,zam,zbQ,zbP,zaL,zcc,zb1,zal,zbd,zbe,zbf,zbg,zbh,zbi,zbj,zbk,zbt,zbu,zbl,zbm,zbn,zbo,zbp,zbq,zbr,zbs,Zc,zak,St.start,zad,zbv,hl2,hni,hil,hi,hget,zg]<;>first|exact ⟨rfl,rfl,rfl⟩|exact ⟨rfl,rfl⟩) (hx:=by simp [zac,noT,znL,coL,coC,zc6,zgN,zc5,zc,zjB,zir,inK,inR,zhK,zcM,zc4,zbE,zdm,Za,zq,zed,Av.ren,Ow.ren,Cl.ren,Av.ids,Ow.ids,Cl.ids,Av.fix,Ow.fix,Cl.fix,ZM,ZT,zZ,St.back,zed,z7,Zg,zO,Zh,ZH,zec,zaW,zcd,zeF,zdQ,zan,zb6,zee,zfx,zc2,zdP,zaV,Zk,zz,zax,zao,zdj,zbA,zcb,Zj,za2,za9,zba,zbb,zbc,zbO,zc1,zaT,zaS,zcp,zbR,zc3,zcQ,trD,St.ev,St.tmp,St.put,St.h,St.new,zd,zbB,Zx,zcN,za3,Zu,zaz,Zm,ZE,zeJ,zam,zbQ,zbP,zaL,zcc,zb1,zal,zbd,zbe,zbf,zbg,zbh,zbi,zbj,zbk,zbt,zbu,zbl,zbm,zbn,zbo,zbp,zbq,zbr,zbs,Zc,zak,St.start,zad,zbv,hl2,hni,hil,hi,hget,zg]) (ho:=by simp [zct,zef,zir,inK,inR,zhK,zcM,zc4,zbE,zdm,Za,zq,zed,Av.ren,Ow.ren,Cl.ren,Av.ids,Ow.ids,Cl.ids,Av.fix,Ow.fix,Cl.fix,ZM,ZT,zZ,St.back,zed,z7,Zg,zO,Zh,ZH,zec,zaW,zcd,zeF,zdQ,zan,zb6,zee,zfx,zc2,zdP,zaV,Zk,zz,zax,zao,zdj,zbA,zcb,Zj,za2,za9,zba,zbb,zbc,zbO,zc1,zaT,zaS,zcp,zbR,zc3,zcQ,trD,St.ev,St.tmp,St.put,St.h,St.new,zd,zbB,Zx,zcN,za3,Zu,zaz,Zm,ZE,zeJ,zam,zbQ,zbP,zaL,zcc,zb1,zal,zbd,zbe,zbf,zbg,zbh,zbi,zbj,zbk,zbt,zbu,zbl,zbm,zbn,zbo,zbp,zbq,zbr,zbs,Zc,zak,St.start,zad,zbv,hl2,hni,hil,hi,hget,zg]) (hh:=by simp [zce,zir,inK,inR,zhK,zcM,zc4,zbE,zdm,Za,zq,zed,Av.ren,Ow.ren,Cl.ren,Av.ids,Ow.ids,Cl.ids,Av.fix,Ow.fix,Cl.fix,ZM,ZT,zZ,St.back,zed,z7,Zg,zO,Zh,ZH,zec,zaW,zcd,zeF,zdQ,zan,zb6,zee,zfx,zc2,zdP,zaV,Zk,zz,zax,zao,zdj,zbA,zcb,Zj,za2,za9,zba,zbb,zbc,zbO,zc1,zaT,zaS,zcp,zbR,zc3,zcQ,trD,St.ev,St.tmp,St.put,St.h,St.new,zd,zbB,Zx,zcN,za3,Zu,zaz,Zm,ZE,zeJ,zam,zbQ,zbP,zaL,zcc,zb1,zal,zbd,zbe,zbf,zbg,zbh,zbi,zbj,zbk,zbt,zbu,zbl,zbm,zbn,zbo,zbp,zbq,zbr,zbs,Zc,zak,St.start,zad,zbv,hl2,hni,hil,hi,hget,zg]) (hb:=by simp [zir,inK,inR,zhK,zcM,zc4,zbE,zdm,Za,zq,zed,Av.ren,Ow.ren,Cl.ren,Av.ids,Ow.ids,Cl.ids,Av.fix,Ow.fix,Cl.fix,ZM,ZT,zZ,St.back,zed,z7,Zg,zO,Zh,ZH,zec,zaW,zcd,zeF,zdQ,zan,zb6,zee,zfx,zc2,zdP,zaV,Zk,zz,zax,zao,zdj,zbA,zcb,Zj,za2,za9,zba,zbb,zbc,zbO,zc1,zaT,zaS,zcp,zbR,zc3,zcQ,trD,St.ev,St.tmp,St.put,St.h,St.new,zd,zbB,Zx,zcN,za3,Zu,zaz,Zm,ZE,zeJ,zam,zbQ,zbP,zaL,zcc,zb1,zal,zbd,zbe,zbf,zbg,zbh,zbi,zbj,zbk,zbt,zbu,zbl,zbm,zbn,zbo,zbp,zbq,zbr,zbs,Zc,zak,St.start,zad,zbv,hl2,hni,hil,hi,hget,zg]) (h1:=by simp [zir,inK,inR,zhK,zcM,zc4,zbE,zdm,Za,zq,zed,Av.ren,Ow.ren,Cl.ren,Av.ids,Ow.ids,Cl.ids,Av.fix,Ow.fix,Cl.fix,ZM,ZT,zZ,St.back,zed,z7,Zg,zO,Zh,ZH,zec,zaW,zcd,zeF,zdQ,zan,zb6,zee,zfx,zc2,zdP,zaV,Zk,zz,zax,zao,zdj,zbA,zcb,Zj,za2,za9,zba,zbb,zbc,zbO,zc1,zaT,zaS,zcp,zbR,zc3,zcQ,trD,St.ev,St.tmp,St.put,St.h,St.new,zd,zbB,Zx,zcN,za3,Zu,zaz,Zm,ZE,zeJ,zam,zbQ,zbP,zaL,zcc,zb1,zal,zbd,zbe,zbf,zbg,zbh,zbi,zbj,zbk,zbt,zbu,zbl,zbm,zbn,zbo,zbp,zbq,zbr,zbs,Zc,zak,St.start,zad,zbv,hl2,hni,hil,hi,hget,zg]) (hv:=by simp [zir,inK,inR,zhK,zcM,zc4,zbE,zdm,Za,zq,zed,Av.ren,Ow.ren,Cl.ren,Av.ids,Ow.ids,Cl.ids,Av.fix,Ow.fix,Cl.fix,ZM,ZT,zZ,St.back,zed,z7,Zg,zO,Zh,ZH,zec,zaW,zcd,zeF,zdQ,zan,zb6,zee,zfx,zc2,zdP,zaV,Zk,zz,zax,zao,zdj,zbA,zcb,Zj,za2,za9,zba,zbb,zbc,zbO,zc1,zaT,zaS,zcp,zbR,zc3,zcQ,trD,St.ev,St.tmp,St.put,St.h,St.new,zd,zbB,Zx,zcN,za3,Zu,zaz,Zm,ZE,zeJ,zam,zbQ,zbP,zaL,zcc,zb1,zal,zbd,zbe,zbf,zbg,zbh,zbi,zbj,zbk,zbt,zbu,zbl,zbm,zbn,zbo,zbp,zbq,zbr,zbs,Zc,zak,St.start,zad,zbv,hl2,hni,hil,hi,hget,zg]<;>with_reducible rfl) (hfix:=by simp [zir,inK,inR,zhK,zcM,zc4,zbE,zdm,Za,zq,zed,Av.ren,Ow.ren,Cl.ren,Av.ids,Ow.ids,Cl.ids,Av.fix,Ow.fix,Cl.fix,ZM,ZT,zZ,St.back,zed,z7,Zg,zO,Zh,ZH,zec,zaW,zcd,zeF,zdQ,zan,zb6,zee,zfx,zc2,zdP,zaV,Zk,zz,zax,zao,zdj,zbA,zcb,Zj,za2,za9,zba,zbb,zbc,zbO,zc1,zaT,zaS,zcp,zbR,zc3,zcQ,trD,St.ev,St.tmp,St.put,St.h,St.new,zd,zbB,Zx,zcN,za3,Zu,zaz,Zm,ZE,zeJ,zam,zbQ,zbP,zaL,zcc,zb1,zal,zbd,zbe,zbf,zbg,zbh,zbi,zbj,zbk,zbt,zbu,zbl,zbm,zbn,zbo,zbp,zbq,zbr,zbs,Zc,zak,St.start,zad,zbv,hl2,hni,hil,hi,hget,zg]) e0 e1 e2 K hK
 refine ⟨rfl,?_⟩
 (repeat' (first|(with_reducible first|refine zj (fun _=>?_) (fun _=>?_)|refine zi (fun _=>?_) (fun _=>?_)|refine zk zb (by kernel_rfl) ?_|exact za rfl)|(simp -dsimp [hl2,hni,hil,hi,hget])));(all_goals try with_reducible refine za ?_)
 all_goals exact ⟨rfl,rfl⟩
end Go.Smd
end
