/- Part 27 of the proof: Or Op Eu Ev Iq. -/
import Derived.Test.YtdgnolbdcmgfoaaGreatQO26
import Derived.Test.YtdgnolbdcmgfoaaGreatQO24
set_option linter.unusedVariables false
set_option linter.unusedSimpArgs false
set_option maxRecDepth 100000
set_option maxHeartbeats 8000000
section
namespace Go.Smd
open Go.RowKit Go.Proofs Go.Proofs.Tryz
structure Ord3 {α:Type} (O:α→Prop) (c:α→α→Int):Prop where
 anti:∀x y,O x→O y→c y x= - c x y
 trans:∀x y z,O x→O y→O z→c x y≤0→c y z≤0→c x z≤0
section
variable {α:Type} {O:α→Prop} {c d:α→α→Int}
theorem Ord3.refl (h:Ord3 O c){x:α}(hx:O x):c x x=0:=by have:=h.anti x x hx hx;omega
theorem Ord3.lt_le (h:Ord3 O c){x y z:α}(hx:O x)(hy:O y)(hz:O z)(h1:c x y<0)(h2:c y z≤0):c x z<0:=by
 apply Classical.byContradiction
 intro hn
 have h3:=h.anti x z hx hz
 have h4:=h.trans y z x hy hz hx h2 (by omega)
 have h5:=h.anti x y hx hy
 omega
theorem Ord3.le_lt (h:Ord3 O c){x y z:α}(hx:O x)(hy:O y)(hz:O z)(h1:c x y≤0)(h2:c y z<0):c x z<0:=by
 apply Classical.byContradiction
 intro hn
 have h3:=h.anti x z hx hz
 have h4:=h.trans z x y hz hx hy (by omega) h1
 have h5:=h.anti y z hy hz
 omega
theorem Ord3.eq_trans (h:Ord3 O c){x y z:α}(hx:O x)(hy:O y)(hz:O z)(h1:c x y=0)(h2:c y z=0):c x z=0:=by
 have h3:=h.trans x y z hx hy hz (by omega) (by omega)
 have a1:=h.anti x y hx hy
 have a2:=h.anti y z hy hz
 have h4:=h.trans z y x hz hy hx (by omega) (by omega)
 have a3:=h.anti x z hx hz
 omega
theorem Ord3.mono {O':α→Prop}(h:Ord3 O c)(k:∀x,O' x→O x):Ord3 O' c:=⟨fun x y hx hy=>h.anti x y (k x hx) (k y hy),fun x y z hx hy hz=>h.trans x y z (k x hx) (k y hy) (k z hz)⟩
theorem Ord3.congr (h:Ord3 O c)(k:∀x y,O x→O y→d x y=c x y):Ord3 O d:=
 ⟨fun x y hx hy=>by rw[k x y hx hy,k y x hy hx];exact h.anti x y hx hy,fun x y z hx hy hz=>by rw[k x y hx hy,k y z hy hz,k x z hx hz];exact h.trans x y z hx hy hz⟩
theorem Ord3.comap {β:Type}(h:Ord3 O c)(f:β→α):Ord3 (fun x=>O (f x)) (fun x y=>c (f x) (f y)):=⟨fun x y hx hy=>h.anti _ _ hx hy,fun x y z hx hy hz=>h.trans _ _ _ hx hy hz⟩
theorem Ord3.lex (h:Ord3 O c)(ha:∀x y,O x→O y→c x y=0→d y x= - d x y)(ht:∀x y z,O x→O y→O z→c x y=0→c y z=0→d x y≤0→d y z≤0→d x z≤0):Ord3 O (fun x y=>if c x y≠0 then c x y else d x y):=by
 refine ⟨fun x y hx hy=>?_,fun x y z hx hy hz h1 h2=>?_⟩
 ·have a:=h.anti x y hx hy
  by_cases e:c x y=0
  ·rw[if_neg (by omega),if_neg (by omega)];exact ha x y hx hy e
  ·rw[if_pos (by omega),if_pos e];exact a
 ·try dsimp only at h1 h2 ⊢
  by_cases e1:c x y=0
  ·rw[if_neg (by omega)] at h1
   by_cases e2:c y z=0
   ·rw[if_neg (by omega)] at h2
    have e3:=h.eq_trans hx hy hz e1 e2
    rw[if_neg (by omega)]
    exact ht x y z hx hy hz e1 e2 h1 h2
   ·rw[if_pos e2] at h2
    have:=h.le_lt hx hy hz (by omega) (show c y z<0 by omega)
    rw[if_pos (by omega)];omega
  ·rw[if_pos e1] at h1
   have h2':c y z≤0:=by
    by_cases e2:c y z=0
    ·omega
    ·rw[if_pos e2] at h2;exact h2
   have:=h.lt_le hx hy hz (show c x y<0 by omega) h2'
   rw[if_pos (by omega)];omega
theorem Ord3.row (h:Ord3 O c):Ord3 (fun l:List α=>∀x∈l,O x) (zF c):=by
 have anti:∀l m:List α,(∀x∈l,O x)→(∀x∈m,O x)→zF c m l= - zF c l m:=by
  intro l
  induction l with
  |nil=>intro m _ _;cases m<;>simp [zF]
  |cons x l ih=>
   intro m hl hm
   cases m with
   |nil=>simp [zF]
   |cons y m=>
    have a:=h.anti x y (hl x (List.mem_cons_self ..)) (hm y (List.mem_cons_self ..))
    have i:=ih m (fun a ha=>hl a (List.mem_cons_of_mem _ ha)) fun a ha=>hm a (List.mem_cons_of_mem _ ha)
    simp only [zF]
    by_cases e:c x y=0
    ·rw[if_neg (by omega),if_neg (by omega)];exact i
    ·rw[if_pos (by omega),if_pos e];exact a
 refine ⟨anti,fun l=>?_⟩
 induction l with
 |nil=>intro m n _ _ _ _ h2;cases n<;>simp [zF]
 |cons x l ih=>
  intro m n hl hm hn h1 h2
  cases m with
  |nil=>simp [zF] at h1
  |cons y m=>cases n with
   |nil=>simp [zF] at h2
   |cons z n=>
    have hx:=hl x (List.mem_cons_self ..)
    have hy:=hm y (List.mem_cons_self ..)
    have hz:=hn z (List.mem_cons_self ..)
    have i:=ih m n (fun a ha=>hl a (List.mem_cons_of_mem _ ha)) (fun a ha=>hm a (List.mem_cons_of_mem _ ha)) (fun a ha=>hn a (List.mem_cons_of_mem _ ha))
    simp only [zF] at h1 h2 ⊢
    by_cases e1:c x y=0
    ·rw[if_neg (by omega)] at h1
     by_cases e2:c y z=0
     ·rw[if_neg (by omega)] at h2
      have e3:=h.eq_trans hx hy hz e1 e2
      rw[if_neg (by omega)]
      exact i h1 h2
     ·rw[if_pos e2] at h2
      have:=h.le_lt hx hy hz (by omega) (show c y z<0 by omega)
      rw[if_pos (by omega)];omega
    ·rw[if_pos e1] at h1
     have h2':c y z≤0:=by
      by_cases e2:c y z=0
      ·omega
      ·rw[if_pos e2] at h2;exact h2
     have:=h.lt_le hx hy hz (show c x y<0 by omega) h2'
     rw[if_pos (by omega)];omega
theorem zch:Ord3 (fun _:Int=>True) zT:=by
 refine ⟨fun x y _ _=>?_,fun x y z _ _ _=>?_⟩
 ·unfold zT;repeat' split
  all_goals omega
 ·unfold zT;repeat' split
  all_goals omega
theorem zgm:∀l m:List UInt8,Lib.compareBytes l m=zF (fun a b=>zT (a.toNat:Int) b.toNat) l m
 | [],[]=>rfl
 | [],_::_=>rfl
 |_::_,[]=>rfl
 |a::l,b::m=>by
  rw[zdw]
  simp only [zF]
  by_cases e:a=b
  ·subst e;rw[if_pos rfl,zkk,if_neg (by simp)];exact zgm l m
  ·have:zT (a.toNat:Int) b.toNat≠0:=by
    intro h
    refine e (UInt8.toNat_inj.1 ?_)
    unfold zT at h
    split at h
    ·omega
    ·split at h<;>omega
   rw[if_neg e,if_pos this]
theorem zgn:Ord3 (fun _:ByteArray=>True) zb6:=by
 have h:=((zch.comap (fun a:UInt8=>(a.toNat:Int))).row).comap (fun s:ByteArray=>s.data.toList)
 exact (h.mono fun x _ a _=>trivial).congr fun x y _ _=>zgm _ _
end
def zks (b:Int):Ieee.Datum→Int
 | .number s m i=>Ieee.signed s m (i - b).toNat
 | .infinity _=>0
 | .nan _ _=>0
def zeg:Ieee.Datum→Int
 | .infinity s=>if s then -1 else 1
 |_=>0
def zdq:Ieee.Datum→Int
 | .number _ _ i=>i
 |_=>0
theorem zeh (s:Bool)(m k t:Nat):Ieee.signed s m (k+t)=Ieee.signed s m k*((2 ^ t:Nat):Int):=by
 unfold Ieee.signed
 have:m<<<(k+t)=(m<<<k)*2 ^ t:=by rw[Nat.shiftLeft_eq,Nat.shiftLeft_eq,Nat.pow_add,Nat.mul_assoc]
 cases s
 ·simp only [Bool.false_eq_true,if_false,this];rw[Int.natCast_mul]
 ·simp only [if_true,this];rw[Int.natCast_mul,Int.neg_mul]
theorem zmz (a b:Int)(t:Nat)(ht:0<t):zT (a*(t:Int)) (b*(t:Int))=zT a b:=by
 have hp:(0:Int)<t:=by omega
 unfold zT
 rcases Int.lt_trichotomy a b with h|h|h
 ·have:=Int.mul_lt_mul_of_pos_right h hp
  rw[if_neg (by omega),if_pos this,if_neg (by omega),if_pos h]
 ·subst h;rw[if_neg (by omega),if_neg (by omega),if_neg (by omega),if_neg (by omega)]
 ·have:=Int.mul_lt_mul_of_pos_right h hp
  rw[if_pos this,if_pos h]
theorem zkt {x y:Nat}{s t:Bool}{m n:Nat}{i j b:Int}(hx:FloatKind.f64.format.read x= .number s m i)(hy:FloatKind.f64.format.read y= .number t n j)(hi:b≤i)(hj:b≤j):zbv x y=zT (Ieee.signed s m (i - b).toNat) (Ieee.signed t n (j - b).toNat):=by
 have e1:(i - b).toNat=(i - min i j).toNat+(min i j - b).toNat:=by omega
 have e2:(j - b).toNat=(j - min i j).toNat+(min i j - b).toNat:=by omega
 rw[e1,e2,zeh,zeh,zmz _ _ _ (Nat.pow_pos (by decide))]
 have ho:FloatKind.f64.format.order x y=some (compare (Ieee.signed s m (i - min i j).toNat) (Ieee.signed t n (j - min i j).toNat)):=by
  unfold Ieee.Format.order;rw[hx,hy];rfl
 rcases Int.lt_trichotomy (Ieee.signed s m (i - min i j).toNat) (Ieee.signed t n (j - min i j).toNat) with h|h|h
 ·have hc:compare (Ieee.signed s m (i - min i j).toNat) (Ieee.signed t n (j - min i j).toNat)= .lt:=Std.compare_eq_lt.2 h
  have r:zT (Ieee.signed s m (i - min i j).toNat) (Ieee.signed t n (j - min i j).toNat)= -1:=by unfold zT;rw[if_neg (by omega),if_pos h]
  rw[r];unfold zbv;rw[ho,hc];rfl
 ·have hc:compare (Ieee.signed s m (i - min i j).toNat) (Ieee.signed t n (j - min i j).toNat)= .eq:=Std.compare_eq_iff_eq.2 h
  have r:zT (Ieee.signed s m (i - min i j).toNat) (Ieee.signed t n (j - min i j).toNat)=0:=by unfold zT;rw[if_neg (by omega),if_neg (by omega)]
  rw[r];unfold zbv;rw[ho,hc];rfl
 ·have hc:compare (Ieee.signed s m (i - min i j).toNat) (Ieee.signed t n (j - min i j).toNat)= .gt:=Std.compare_eq_gt.2 h
  have r:zT (Ieee.signed s m (i - min i j).toNat) (Ieee.signed t n (j - min i j).toNat)=1:=by unfold zT;rw[if_pos h]
  rw[r];unfold zbv;rw[ho,hc];rfl
theorem znH {x y:Nat}(hx:(FloatKind.f64.format.read x).isNaN=false)(hy:(FloatKind.f64.format.read y).isNaN=false){b:Int}(hi:b≤zdq (FloatKind.f64.format.read x))(hj:b≤zdq (FloatKind.f64.format.read y)):
  zbv x y=if zT (zeg (FloatKind.f64.format.read x)) (zeg (FloatKind.f64.format.read y))≠0 then zT (zeg (FloatKind.f64.format.read x)) (zeg (FloatKind.f64.format.read y)) else zT (zks b (FloatKind.f64.format.read x)) (zks b (FloatKind.f64.format.read y)):=by
 cases ex:FloatKind.f64.format.read x with
 |nan s t=>rw[ex] at hx;cases hx
 |infinity s=>cases ey:FloatKind.f64.format.read y with
  |nan s t=>rw[ey] at hy;cases hy
  |infinity t=>
   have ho:FloatKind.f64.format.order x y=some (compare t.toNat s.toNat):=by unfold Ieee.Format.order;rw[ex,ey];rfl
   unfold zbv;rw[ho]
   cases s<;>cases t<;>simp only [zeg,zks]<;>decide
  |number t n j=>
   have ho:FloatKind.f64.format.order x y=some (if s then .lt else .gt):=by unfold Ieee.Format.order;rw[ex,ey];rfl
   unfold zbv;rw[ho]
   cases s<;>simp [zeg,zT]
 |number s m i=>cases ey:FloatKind.f64.format.read y with
  |nan s t=>rw[ey] at hy;cases hy
  |infinity t=>
   have ho:FloatKind.f64.format.order x y=some (if t then .gt else .lt):=by unfold Ieee.Format.order;rw[ex,ey];rfl
   unfold zbv;rw[ho]
   cases t<;>simp [zeg,zT]
  |number t n j=>
   rw[ex] at hi;rw[ey] at hj
   rw[zkt ex ey (b:=b) hi hj]
   simp [zeg,zks,zkk]
theorem zpQ:Ord3 (fun x:Nat=>(FloatKind.f64.format.read x).isNaN=false) zbv:=by
 have key:∀b:Int,Ord3 (fun x:Nat=>(FloatKind.f64.format.read x).isNaN=false∧b≤zdq (FloatKind.f64.format.read x)) zbv:=fun b=>by
  refine Ord3.congr (Ord3.lex (((zch.comap fun x:Nat=>zeg (FloatKind.f64.format.read x))).mono fun _ _=>trivial) (d:=fun x y=>zT (zks b (FloatKind.f64.format.read x)) (zks b (FloatKind.f64.format.read y))) (fun x y _ _ _=>zch.anti _ _ trivial trivial) fun x y z _ _ _ _ _=>zch.trans _ _ _ trivial trivial trivial) fun x y hx hy=>?_
  exact znH hx.1 hy.1 hx.2 hy.2
 refine ⟨fun x y hx hy=>(key (min (zdq (FloatKind.f64.format.read x)) (zdq (FloatKind.f64.format.read y)))).anti x y ⟨hx,by omega⟩ ⟨hy,by omega⟩,fun x y z hx hy hz=>?_⟩
 exact (key (min (zdq (FloatKind.f64.format.read x)) (min (zdq (FloatKind.f64.format.read y)) (zdq (FloatKind.f64.format.read z))))).trans x y z ⟨hx,by omega⟩ ⟨hy,by omega⟩ ⟨hz,by omega⟩
theorem zmA {n:Nat}(h:n≠0):2 ^ n.log2≤n∧n<2 ^ (n.log2+1):=⟨Nat.log2_self_le h,Nat.lt_log2_self⟩
theorem zrX (neg:Bool)(n:Nat):Ieee.Toward.even.cut neg n 0=n:=by
 unfold Ieee.Toward.cut
 simp [Nat.mod_one]
theorem zpR {neg:Bool}{r k:Nat}(hk:k<4503599627370496)(q:Nat)(hq:1≤q)(hq2:q<2047)(hr:r=q*4503599627370496+k):Ieee.double.read (Ieee.double.word neg r)= .number neg (4503599627370496+k) (-1074+((q - 1:Nat):Int)):=by
 have hinf:Ieee.double.infRung=9218868437227405312:=by decide+kernel
 have hsw:Ieee.double.signWeight=9223372036854775808:=by decide+kernel
 have hbi:Ieee.double.binade=4503599627370496:=by decide+kernel
 have hle:Ieee.double.leastPlace= -1074:=by decide+kernel
 have hlt:r<9218868437227405312:=by omega
 have hm:Ieee.double.word neg r % Ieee.double.signWeight=r:=by
  rw[hsw];unfold Ieee.Format.word;rw[hsw];split<;>omega
 have hneg:(Ieee.double.word neg r / Ieee.double.signWeight % 2==1)=neg:=by
  rw[hsw];unfold Ieee.Format.word;rw[hsw]
  cases neg
  ·simp only [Bool.false_eq_true,if_false]
   have:r / 9223372036854775808=0:=Nat.div_eq_of_lt (by omega)
   rw[this];rfl
  ·simp only [if_true]
   have:(9223372036854775808+r) / 9223372036854775808=1:=by omega
   rw[this];rfl
 unfold Ieee.Format.read
 simp only [hm,hneg,hbi,hinf,hle]
 have e1:r % 4503599627370496=k:=by omega
 have e2:r / 4503599627370496=q:=by omega
 rw[if_neg (by omega),if_pos hlt,e1,e2]
theorem znI (neg:Bool)(n:Nat)(hn:n≤9007199254740992):∃m i,Ieee.double.read (Ieee.double.nearest neg n 0)= .number neg m i∧i≤1∧∀b:Int,b≤i→b≤0→Ieee.signed neg m (i - b).toNat=Ieee.signed neg n (0 - b).toNat:=by
 have hbi:Ieee.double.binade=4503599627370496:=by decide+kernel
 have hle:Ieee.double.leastPlace= -1074:=by decide+kernel
 have hinf:Ieee.double.infRung=9218868437227405312:=by decide+kernel
 have hfb:Ieee.double.fractionBits=52:=rfl
 by_cases h0:n=0
 ·subst h0
  refine ⟨0, -1074,?_,by omega,fun b _ _=>by cases neg<;>simp [Ieee.signed]⟩
  unfold Ieee.Format.nearest
  rw[if_pos rfl]
  cases neg<;>decide+kernel
 ·by_cases h1:n=9007199254740992
  ·subst h1
   refine ⟨4503599627370496,1,?_,by omega,fun b h1 h2=>?_⟩
   ·cases neg<;>decide+kernel
   ·have e:(1 - b).toNat=(0 - b).toNat+1:=by omega
    rw[e,zeh]
    have e2:Ieee.signed neg 9007199254740992 (0 - b).toNat=Ieee.signed neg 4503599627370496 (0 - b).toNat*2:=by
     unfold Ieee.signed
     have:(9007199254740992:Nat)<<<(0 - b).toNat=(4503599627370496<<<(0 - b).toNat)*2:=by rw[Nat.shiftLeft_eq,Nat.shiftLeft_eq];omega
     rw[this]
     cases neg<;>simp<;>omega
    rw[e2];simp
  ·obtain ⟨b1,b2⟩:=zmA h0
   have hL:n.log2≤52:=by
    apply Classical.byContradiction
    intro h
    have:2 ^ 53≤2 ^ n.log2:=Nat.pow_le_pow_right (by decide) (by omega)
    omega
   obtain ⟨L,hLd⟩:∃L,L=n.log2:=⟨_,rfl⟩
   rw[←hLd] at b1 b2 hL
   have last:max ((0:Int)+(n.log2:Int) - (Ieee.double.fractionBits:Int)) Ieee.double.leastPlace=(L:Int) - 52:=by rw[hle,hfb,←hLd];omega
   have kd:n<<<(52 - L)=n*2 ^ (52 - L):=Nat.shiftLeft_eq _ _
   have k1:4503599627370496≤n*2 ^ (52 - L):=by
    have h1:2 ^ L*2 ^ (52 - L)≤n*2 ^ (52 - L):=Nat.mul_le_mul_right _ b1
    rw[←Nat.pow_add,show L+(52 - L)=52 by omega] at h1
    exact h1
   have k2:n*2 ^ (52 - L)<9007199254740992:=by
    have h1:n*2 ^ (52 - L)<2 ^ (L+1)*2 ^ (52 - L):=Nat.mul_lt_mul_of_pos_right b2 (Nat.pow_pos (by decide))
    rw[←Nat.pow_add,show L+1+(52 - L)=53 by omega] at h1
    exact h1
   refine ⟨n*2 ^ (52 - L),(L:Int) - 52,?_,by omega,fun b h1 h2=>?_⟩
   ·unfold Ieee.Format.nearest
    rw[if_neg h0]
    simp only [last]
    have e1:((0:Int) - ((L:Int) - 52)).toNat=52 - L:=by omega
    have e2:(((L:Int) - 52) - 0).toNat=0:=by omega
    rw[e1,e2,zrX,kd,hbi,hle,hinf]
    have e3:(((L:Int) - 52) - -1074).toNat=L+1022:=by omega
    rw[e3,Nat.min_eq_left (by omega)]
    obtain ⟨K,hK⟩:∃K,K=n*2 ^ (52 - L):=⟨_,rfl⟩
    rw[←hK] at k1 k2 ⊢
    have h:=zpR (neg:=neg) (r:=(L+1022)*4503599627370496+K) (k:=K - 4503599627370496) (by omega) (L+1023) (by omega) (by omega) (by omega)
    have e4:4503599627370496+(K - 4503599627370496)=K:=by omega
    have e5:(-1074:Int)+((L+1023 - 1:Nat):Int)=(L:Int) - 52:=by omega
    rw[e4,e5] at h
    exact h
   ·have e:((0:Int) - b).toNat=((L:Int) - 52 - b).toNat+(52 - L):=by omega
    rw[e]
    unfold Ieee.signed
    have:n<<<(((L:Int) - 52 - b).toNat+(52 - L))=(n*2 ^ (52 - L))<<<((L:Int) - 52 - b).toNat:=by
     rw[Nat.shiftLeft_eq,Nat.shiftLeft_eq,Nat.pow_add,Nat.mul_assoc,Nat.mul_comm (2 ^ _)]
    rw[this]
theorem zku (n:Int)(h: -9007199254740992≤n∧n≤9007199254740992):∃s m i,FloatKind.f64.format.read (zgd n)= .number s m i∧i≤1∧∀b:Int,b≤i→b≤0→Ieee.signed s m (i - b).toNat=n*((2 ^ (0 - b).toNat:Nat):Int):=by
 obtain ⟨m,i,h1,h2,h3⟩:=znI (decide (n<0)) n.natAbs (by omega)
 refine ⟨decide (n<0),m,i,?_,h2,fun b hb hb0=>?_⟩
 ·rw[←h1];rfl
 ·rw[h3 b hb hb0]
  unfold Ieee.signed
  rw[Nat.shiftLeft_eq]
  by_cases hn:n<0
  ·simp only [hn,decide_true,if_true]
   rw[Int.natCast_mul,←Int.neg_mul]
   congr 1;omega
  ·simp only [hn,decide_false,Bool.false_eq_true,if_false]
   rw[Int.natCast_mul]
   congr 1;omega
theorem znJ (n k:Int)(hn: -9007199254740992≤n∧n≤9007199254740992)(hk: -9007199254740992≤k∧k≤9007199254740992):zbv (zgd n) (zgd k)=zT n k:=by
 obtain ⟨s,m,i,h1,h2,h3⟩:=zku n hn
 obtain ⟨t,q,j,g1,g2,g3⟩:=zku k hk
 rw[zkt h1 g1 (b:=min (min i j) 0) (by omega) (by omega),h3 _ (by omega) (by omega),g3 _ (by omega) (by omega)]
 exact zmz _ _ _ (Nat.pow_pos (by decide))
def gK:GV→Int| .mk k _ _ _ _ _=>k
def gN:GV→Int| .mk _ n _ _ _ _=>n
def gS:GV→ByteArray| .mk _ _ _ s _ _=>s
def gL:GV→List GV| .mk _ _ _ _ _ l=>l
def gF:GV→List (ByteArray×GV)| .mk _ _ _ _ ks l=>ks.zip l
def zln:GV→Nat| .mk k n f _ _ _=>asF k n f
def zmB (p q:ByteArray×GV):Int:=if zb6 p.1 q.1≠0 then zb6 p.1 q.1 else zbJ p.2 q.2
theorem zkv:∀l m:List GV,cmpPs l m=zF zbJ l m
 | [],[]=>by simp [cmpPs,zF]
 | [],_::_=>by simp [cmpPs,zF]
 |_::_,[]=>by simp [cmpPs,zF]
 |x::l,y::m=>by simp only [cmpPs,zF,zkv l m]
theorem zkw:∀(ks:List ByteArray) (l:List GV) (ks':List ByteArray) (l':List GV),ks.length≤l.length→ks'.length≤l'.length→cmpPm ks l ks' l'=zF zmB (ks.zip l) (ks'.zip l')
 | [],l,ks',l',_,h'=>by
  rw[zfh (.inl rfl),zfQ (.inl (by simp))]
  congr 1
  simp;omega
 |k::ks,[],_,_,h,_=>by simp at h
 |k::ks,x::l,[],l',h,_=>by
  rw[zfh (.inr rfl),zfQ (.inr (by simp))]
  congr 1
  simp at h ⊢;omega
 |k::ks,x::l,k'::ks',[],_,h'=>by simp at h'
 |k::ks,x::l,k'::ks',x'::l',h,h'=>by
  simp only [cmpPm,List.zip_cons_cons,zF,zmB]
  rw[zkw ks l ks' l' (by simpa using h) (by simpa using h')]
  by_cases e:zb6 k k'=0<;>by_cases e2:zbJ x x'=0<;>simp [e,e2]
def dP (x y:GV):Int:=
 if rkV (gK x)=0 then (if gK x=2∧gK y=2 then zT (gN x) (gN y) else zbv (zln x) (zln y))
 else if rkV (gK x)=1 then zb6 (gS x) (gS y) else if rkV (gK x)=2 then zT (gN x) (gN y) else if rkV (gK x)=3 then zF zbJ (gL x) (gL y) else if rkV (gK x)=4 then zF zmB (gF x) (gF y) else 0
theorem zrY (x y:GV)(hx:okP x)(hy:okP y):zbJ x y=if zT (rkV (gK x)) (rkV (gK y))≠0 then zT (rkV (gK x)) (rkV (gK y)) else dP x y:=by
 cases hx with
 |mk h1 _=>cases hy with
  |mk h2 _=>simp only [zbJ,dP,gK,gN,gS,gL,gF,zln,zkv,zkw _ _ _ _ h1 h2];rfl
theorem zwI {k:Int}(h:rkV k=0):k=2∨k=3:=by unfold rkV at h;repeat' split at h<;>first|assumption|omega
theorem zwJ {k:Int}(h:rkV k=3):k=5:=by
 unfold rkV at h
 split at h
 ·omega
 ·split at h
  ·omega
  ·split at h
   ·omega
   ·split at h
    ·assumption
    ·split at h<;>omega
theorem zwK {k:Int}(h:rkV k=4):k=6:=by
 unfold rkV at h
 split at h
 ·omega
 ·split at h
  ·omega
  ·split at h
   ·omega
   ·split at h
    ·omega
    ·split at h
     ·assumption
     ·omega
theorem zpS {g:GV}(h:okP g):∀x∈gL g,okP x:=by cases h with|mk _ h=>exact h
theorem zrZ {g:GV}:∀p∈gF g,p.2∈gL g:=by
 obtain ⟨k,n,f,s,ks,l⟩:=g
 intro p hp
 exact (List.of_mem_zip hp).2
theorem ztP {g x:GV}(h:x∈gL g):SizeOf.sizeOf x<SizeOf.sizeOf g:=by
 obtain ⟨k,n,f,s,ks,l⟩:=g
 have:=List.sizeOf_lt_of_mem (show x∈l from h)
 simp only [GV.mk.sizeOf_spec];omega
theorem zjr {g:GV}(h:zW g=true)(hk:gK g=5∨gK g=6):∀x∈gL g,zW x=true:=by
 obtain ⟨k,n,f,s,ks,l⟩:=g
 simp only [gK] at hk
 unfold zW at h
 have:orderlys l=true:=by rcases hk with rfl|rfl<;>simpa using h
 rw[zdn] at this
 exact List.all_eq_true.1 this
theorem zmC {g:GV}(h:zW g=true)(hk:rkV (gK g)=0):(FloatKind.f64.format.read (zln g)).isNaN=false:=by
 obtain ⟨k,n,f,s,ks,l⟩:=g
 simp only [gK] at hk
 rcases zwI hk with rfl|rfl
 ·exact zeK n
 ·refine zeJ (a:=f) ?_
  unfold zW at h
  simpa [ziA] using h
theorem zho {g:GV}(h:zW g=true)(hk:gK g=2):(-9007199254740992≤gN g∧gN g≤9007199254740992)∧zln g=zgd (gN g):=by
 obtain ⟨k,n,f,s,ks,l⟩:=g
 simp only [gK] at hk
 subst hk
 unfold zW at h
 refine ⟨by simpa [gN] using h,by simp [zln,gN,asF]⟩
abbrev OP (N:Nat)(g:GV):Prop:=SizeOf.sizeOf g<N∧okP g∧zW g=true
theorem zgQ:∀N:Nat,Ord3 (OP N) zbJ
 |0=>⟨fun x y h=>absurd h.1 (Nat.not_lt_zero _),fun x y z h=>absurd h.1 (Nat.not_lt_zero _)⟩
 |N+1=>by
  have ih:=zgQ N
  have kv:Ord3 (fun p:ByteArray×GV=>OP N p.2) zmB:=
   Ord3.lex ((zgn.comap (fun p:ByteArray×GV=>p.1)).mono fun _ _=>trivial) (d:=fun p q:ByteArray×GV=>zbJ p.2 q.2) (fun x y hx hy _=>ih.anti _ _ hx hy) fun x y z hx hy hz _ _=>ih.trans _ _ _ hx hy hz
  have key:∀r:Int,∃e:GV→GV→Int,Ord3 (fun g=>OP (N+1) g∧rkV (gK g)=r) e∧∀x y,OP (N+1) x→rkV (gK x)=r→OP (N+1) y→rkV (gK y)=r→dP x y=e x y:=fun r=>by
   have items:∀g,OP (N+1) g→gK g=5∨gK g=6→∀x∈gL g,OP N x:=fun g hg hk x hx=>⟨by have:=ztP hx;have:=hg.1;omega,zpS hg.2.1 x hx,zjr hg.2.2 hk x hx⟩
   by_cases r0:r=0
   ·subst r0
    refine ⟨fun x y=>zbv (zln x) (zln y),(zpQ.comap zln).mono fun g hg=>zmC hg.1.2.2 hg.2,fun x y hx rx hy ry=>?_⟩
    unfold dP
    rw[if_pos rx]
    split
    ·next h=>
     obtain ⟨b1,e1⟩:=zho hx.2.2 h.1
     obtain ⟨b2,e2⟩:=zho hy.2.2 h.2
     dsimp only
     rw[e1,e2,znJ _ _ b1 b2]
    ·rfl
   ·by_cases r1:r=1
    ·subst r1
     refine ⟨fun x y=>zb6 (gS x) (gS y),(zgn.comap gS).mono fun _ _=>trivial,fun x y hx rx hy ry=>?_⟩
     unfold dP;rw[if_neg (by omega),if_pos rx]
    ·by_cases r2:r=2
     ·subst r2
      refine ⟨fun x y=>zT (gN x) (gN y),(zch.comap gN).mono fun _ _=>trivial,fun x y hx rx hy ry=>?_⟩
      unfold dP;rw[if_neg (by omega),if_neg (by omega),if_pos rx]
     ·by_cases r3:r=3
      ·subst r3
       refine ⟨fun x y=>zF zbJ (gL x) (gL y),(ih.row.comap gL).mono fun g hg=>items g hg.1 (.inl (zwJ hg.2)),fun x y hx rx hy ry=>?_⟩
       unfold dP;rw[if_neg (by omega),if_neg (by omega),if_neg (by omega),if_pos rx]
      ·by_cases r4:r=4
       ·subst r4
        refine ⟨fun x y=>zF zmB (gF x) (gF y),(kv.row.comap gF).mono fun g hg p hp=>items g hg.1 (.inr (zwK hg.2)) _ (zrZ p hp),fun x y hx rx hy ry=>?_⟩
        unfold dP;rw[if_neg (by omega),if_neg (by omega),if_neg (by omega),if_neg (by omega),if_pos rx]
       ·refine ⟨fun _ _=>0,⟨fun _ _ _ _=>rfl,fun _ _ _ _ _ _ _ _=>Int.le_refl _⟩,fun x y hx rx hy ry=>?_⟩
        unfold dP;rw[if_neg (by omega),if_neg (by omega),if_neg (by omega),if_neg (by omega),if_neg (by omega)]
  have zero:∀a b:Int,zT a b=0→b=a:=fun a b h=>by unfold zT at h;split at h<;>(try split at h)<;>omega
  refine Ord3.congr (Ord3.lex (O:=OP (N+1)) ((zch.comap fun g:GV=>rkV (gK g)).mono fun _ _=>trivial) (d:=dP) (fun x y hx hy h=>?_) fun x y z hx hy hz h1 h2=>?_) fun x y hx hy=>zrY x y hx.2.1 hy.2.1
  ·obtain ⟨e,he,hd⟩:=key (rkV (gK x))
   have ey:=zero _ _ h
   rw[hd x y hx rfl hy ey,hd y x hy ey hx rfl]
   exact he.anti x y ⟨hx,rfl⟩ ⟨hy,ey⟩
  ·obtain ⟨e,he,hd⟩:=key (rkV (gK x))
   have ey:=zero _ _ h1
   have ez:=(zero _ _ h2).trans ey
   rw[hd x y hx rfl hy ey,hd y z hy ey hz ez,hd x z hx rfl hz ez]
   exact he.trans x y z ⟨hx,rfl⟩ ⟨hy,ey⟩ ⟨hz,ez⟩
theorem zr0:Ord3 (fun g:GV=>okP g∧zW g=true) zbJ:=
 ⟨fun x y hx hy=>(zgQ (SizeOf.sizeOf x+SizeOf.sizeOf y+1)).anti x y ⟨by omega,hx⟩ ⟨by omega,hy⟩,
  fun x y z hx hy hz=>(zgQ (SizeOf.sizeOf x+SizeOf.sizeOf y+SizeOf.sizeOf z+1)).trans x y z ⟨by omega,hx⟩ ⟨by omega,hy⟩ ⟨by omega,hz⟩⟩
abbrev OG (g:GV):Prop:=zW (zz g)=true
theorem ziS:Ord3 OG (fun a b=>zbJ (zz a) (zz b)):=(zr0.comap zz).mono fun g hg=>⟨zpJ g,hg⟩
theorem zpT:Ord3 (fun p:ByteArray×GV=>OG p.2) zcR:=
 Ord3.lex ((zgn.comap (fun p:ByteArray×GV=>p.1)).mono fun _ _=>trivial) (d:=fun p q:ByteArray×GV=>zbJ (zz p.2) (zz q.2)) (fun x y hx hy _=>ziS.anti _ _ hx hy) fun x y z hx hy hz _ _=>ziS.trans _ _ _ hx hy hz
structure OE (e:EV):Prop where
 key:rkE e.k=1→∀p∈e.keys.zip e.l,OG p.2
 val:rkE e.k=2→OG e.v
def dE (e e':EV):Int:=if rkE e.k=1 then zF zcR (e.keys.zip e.l) (e'.keys.zip e'.l) else if rkE e.k=2 then zbJ (zz e.v) (zz e'.v) else if rkE e.k=3 then zT e.n e'.n else zb6 e.s e'.s
theorem zB:Ord3 OE zG:=by
 have key:∀r:Int,∃c:EV→EV→Int,Ord3 (fun g=>OE g∧rkE g.k=r) c∧∀x y,OE x→rkE x.k=r→OE y→rkE y.k=r→dE x y=c x y:=fun r=>by
  by_cases r1:r=1
  ·subst r1
   refine ⟨fun x y=>zF zcR (x.keys.zip x.l) (y.keys.zip y.l),(zpT.row.comap fun x:EV=>x.keys.zip x.l).mono fun g hg=>hg.1.key hg.2,fun x y hx rx hy ry=>?_⟩
   unfold dE;rw[if_pos rx]
  ·by_cases r2:r=2
   ·subst r2
    refine ⟨fun x y=>zbJ (zz x.v) (zz y.v),(ziS.comap fun x:EV=>x.v).mono fun g hg=>hg.1.val hg.2,fun x y hx rx hy ry=>?_⟩
    unfold dE;rw[if_neg (by omega),if_pos rx]
   ·by_cases r3:r=3
    ·subst r3
     refine ⟨fun x y=>zT x.n y.n,(zch.comap fun x:EV=>x.n).mono fun _ _=>trivial,fun x y hx rx hy ry=>?_⟩
     unfold dE;rw[if_neg (by omega),if_neg (by omega),if_pos rx]
    ·refine ⟨fun x y=>zb6 x.s y.s,(zgn.comap fun x:EV=>x.s).mono fun _ _=>trivial,fun x y hx rx hy ry=>?_⟩
     unfold dE;rw[if_neg (by omega),if_neg (by omega),if_neg (by omega)]
 have zero:∀a b:Int,zT a b=0→b=a:=fun a b h=>by unfold zT at h;split at h<;>(try split at h)<;>omega
 refine Ord3.congr (Ord3.lex (O:=OE) ((zch.comap fun g:EV=>rkE g.k).mono fun _ _=>trivial) (d:=dE) (fun x y hx hy h=>?_) fun x y z hx hy hz h1 h2=>?_) fun x y hx hy=>rfl
 ·obtain ⟨e,he,hd⟩:=key (rkE x.k)
  have ey:=zero _ _ h
  rw[hd x y hx rfl hy ey,hd y x hy ey hx rfl]
  exact he.anti x y ⟨hx,rfl⟩ ⟨hy,ey⟩
 ·obtain ⟨e,he,hd⟩:=key (rkE x.k)
  have ey:=zero _ _ h1
  have ez:=(zero _ _ h2).trans ey
  rw[hd x y hx rfl hy ey,hd y z hy ey hz ez,hd x z hx rfl hz ez]
  exact he.trans x y z ⟨hx,rfl⟩ ⟨hy,ey⟩ ⟨hz,ez⟩
theorem zgR {a b:ByteArray}:zb6 a b=0↔a=b:=by
 unfold zb6
 rw[zcz]
 exact ⟨fun h=>by cases a;cases b;simp only [Array.toList_inj] at h;subst h;rfl,fun h=>by rw[h]⟩
theorem zgS {a b:Int}:zT a b=0↔a=b:=by unfold zT;split<;>(try split)<;>omega
def zde (S:List EV):Prop:=S.Pairwise fun x y=>zG x y<0
def lbE (e:EV):List EV→Nat
 | []=>0
 |x::r=>if zG x e<0 then lbE e r+1 else 0
def zci (e:EV):List EV→List EV
 | []=>[e]
 |x::r=>if zG x e<0 then x::zci e r else if zG x e=0 then x::r else e::x::r
def zgT (e:EV)(S:List EV):Prop:=∃x,S[lbE e S]? =some x∧zG x e=0
theorem znK (e:EV):∀S:List EV,lbE e S≤S.length
 | []=>Nat.le_refl _
 |x::r=>by
  have:=znK e r
  simp only [lbE]
  split<;>simp<;>omega
theorem znL (e:EV):∀(S:List EV) (j:Nat) (h:j<S.length),j<lbE e S→zG S[j] e<0
 | [],j,h,_=>by simp at h
 |x::r,j,h,k=>by
  simp only [lbE] at k
  split at k
  ·next hx=>
   cases j with
   |zero=>exact hx
   |succ j=>exact znL e r j (by simpa using h) (by omega)
  ·omega
theorem znM (e:EV)(he:OE e):∀(S:List EV),(∀x∈S,OE x)→zde S→∀(j:Nat) (h:j<S.length),lbE e S≤j→0≤zG S[j] e
 | [],_,_,j,h,_=>by simp at h
 |x::r,ho,hs,j,h,k=>by
  have hs:=List.pairwise_cons.1 hs
  simp only [lbE] at k
  split at k
  ·next hx=>
   cases j with
   |zero=>omega
   |succ j=>exact znM e he r (fun y hy=>ho y (by simp [hy])) hs.2 j (by simpa using h) (by omega)
  ·next hx=>
   cases j with
   |zero=>show 0≤zG x e;omega
   |succ j=>
    have hj:j<r.length:=by simpa using h
    have h1:=hs.1 _ (List.getElem_mem hj)
    show 0≤zG r[j] e
    apply Classical.byContradiction
    intro hn
    exact hx (zB.lt_le (ho x (by simp)) (ho _ (by simp [List.getElem_mem hj])) he h1 (by omega))
theorem zfR (e:EV):∀S:List EV,zgT e S→zci e S=S
 | [],⟨x,h,_⟩=>by simp at h
 |x::r,⟨y,h,hy⟩=>by
  simp only [lbE] at h
  simp only [zci]
  split
  ·next hx=>rw[if_pos hx] at h;rw[zfR e r ⟨y,by simpa using h,hy⟩]
  ·next hx=>rw[if_neg hx] at h;simp at h;subst h;rw[if_pos hy]
theorem ziT (e:EV):∀S:List EV,¬zgT e S→zci e S=Za (lbE e S) e S
 | [],_=>by simp [zci,lbE,Za]
 |x::r,hn=>by
  simp only [zci]
  split
  ·next hx=>
   have h1:lbE e (x::r)=lbE e r+1:=by simp only [lbE,if_pos hx]
   rw[ziT e r fun ⟨y,h,hy⟩=>hn ⟨y,by rw[h1];simpa using h,hy⟩,h1]
   simp [Za]
  ·next hx=>
   have h1:lbE e (x::r)=0:=by simp only [lbE,if_neg hx]
   rw[if_neg fun h0=>hn ⟨x,by rw[h1];rfl,h0⟩,h1]
   simp [Za]
theorem zdO {e y:EV}:∀{S:List EV},y∈zci e S→y=e∨y∈S
 | [],h=>by simp [zci] at h;exact .inl h
 |x::r,h=>by
  simp only [zci] at h
  split at h
  ·rcases List.mem_cons.1 h with h|h
   ·exact .inr (by simp [h])
   ·rcases zdO h with h|h
    ·exact .inl h
    ·exact .inr (by simp [h])
  ·split at h
   ·exact .inr h
   ·rcases List.mem_cons.1 h with h|h
    ·exact .inl h
    ·exact .inr h
theorem zeV (e:EV):∀S:List EV,(zci e S).length≤S.length+1
 | []=>by simp [zci]
 |x::r=>by
  have:=zeV e r
  simp only [zci]
  split
  ·simp;omega
  ·split<;>simp
theorem zgU {e:EV}(he:OE e):∀{S:List EV},(∀x∈S,OE x)→zde S→zde (zci e S)
 | [],_,_=>by simp [zci,zde]
 |x::r,ho,hs=>by
  have hs':=List.pairwise_cons.1 hs
  have hor:∀y∈r,OE y:=fun y hy=>ho y (by simp [hy])
  simp only [zci]
  split
  ·next hx=>
   refine List.pairwise_cons.2 ⟨fun y hy=>?_,zgU he hor hs'.2⟩
   rcases zdO hy with h|h
   ·rw[h];exact hx
   ·exact hs'.1 y h
  ·next hx=>
   split
   ·exact hs
   ·next h0=>
    have ha:=zB.anti x e (ho x (by simp)) he
    refine List.pairwise_cons.2 ⟨fun y hy=>?_,hs⟩
    rcases List.mem_cons.1 hy with h|h
    ·rw[h];omega
    ·have:=hs'.1 y h
     exact zB.lt_le he (ho x (by simp)) (hor y h) (by omega) (by omega)
structure GoodE (e:EV):Prop where
 s:EVs e
 f:FitsE e
 o:OE e
theorem zoD {S:List EV}{e:EV}(hs:zde S)(hS:∀x∈S,GoodE x)(he:GoodE e):Bound (S.map z9) (z9 e) (lbE e S) where
 le:=by simpa using znK e S
 lo:=fun j h k=>by
  have hj:j<S.length:=by simpa using h
  rw[List.getElem_map,zdp _ _ (hS _ (List.getElem_mem hj)).f he.f]
  exact znL e S j hj k
 hi:=fun j h k=>by
  have hj:j<S.length:=by simpa using h
  rw[List.getElem_map,zdp _ _ (hS _ (List.getElem_mem hj)).f he.f]
  exact znM e he.o S (fun x hx=>(hS x hx).o) hs j hj k
theorem zr1 {S:List EV}{e:EV}(hS:∀x∈S,GoodE x)(he:GoodE e):zpO (S.map z9) (z9 e) (lbE e S)↔zgT e S:=by
 unfold zpO zgT
 simp only [List.getElem?_map,Option.map_eq_some_iff]
 constructor
 ·rintro ⟨x,⟨y,hy,rfl⟩,h⟩
  exact ⟨y,hy,by rw[zdp _ _ (hS _ (List.mem_of_getElem? hy)).f he.f] at h;exact h⟩
 ·rintro ⟨y,hy,h⟩
  exact ⟨_,⟨y,hy,rfl⟩,by rw[zdp _ _ (hS _ (List.mem_of_getElem? hy)).f he.f];exact h⟩
theorem zgV {α γ:Type}(f:α→γ)(p:Nat)(e:α)(S:List α):(Za p e S).map f=Za p (f e) (S.map f):=by unfold Za;simp [List.map_take,List.map_drop]
theorem zby (e:LE):∃e0 e1 e2 e3,leD e= [e0,e1,e2,e3]∧leA e= .agg [.d e0,.d e1,.d e2,.d e3]:=by cases e<;>exact ⟨_,_,_,_,rfl,rfl⟩
theorem zr2 (w:World)(v:Value)(n:Nat)(cs ys:List Value)(ad:Addr)(c:Nat)(hown:w.ownsRow 0 233 5 v n cs)(hy:ys.length=5)(hc:∀j u,ys[j]? =some u→w.cell? (ad.add j)=some u)(h1:∀u∈ys,u.oneCell'=true)(hn:(n+1)*40≤140737488351232):
  Calls prog 229 #[v,.int .i64 n,.slice (some ad) 1 c] w (zaC prog 233 5 w v n n cs ys):=by
 obtain ⟨i0,hi,hz0⟩:=Option.map_eq_some_iff.1 (show (prog.info? 233).map (fun i=>(i.zero,i.size,i.bytes))=some (some (.agg #[.pointer none,.pointer none,.pointer none,.pointer none,.pointer none]),5,40) from by kernel_rfl)
 simp only [Prod.mk.injEq] at hz0
 obtain ⟨v',w',hr,hown',hg,_,hat⟩:=run_append_own_at (P:=prog) w 0 218 218 233 i0 _ 5 40 underlying218 hi hz0.1 hz0.2.1 hz0.2.2 rfl (by omega) v n cs hown ad 1 c ys (by simpa using hy) hc h1 (by simp only [maxLen];omega) (by omega) (Nat.zero_le _)
 rw[←ziR (t':=217) underlying218 underlying217 hi] at hr
 have HR:=Lib.hid hr
 have HO:Hid (zaC prog 233 5 w v n n cs ys (.returned v') w'):=by
  refine ⟨v',rfl,?_,hg,hat.imp id fun h=>⟨_,h,Nat.le_refl _,(hown'.lt _ h).2⟩⟩
  have e1:cs.take (n*5)=cs:=List.take_of_length_le (by rw[hown.1];exact Nat.le_refl _)
  have e2:cs.drop (n*5)= []:=List.drop_of_length_le (by rw[hown.1];exact Nat.le_refl _)
  rw[e1,e2,List.append_nil]
  exact hown'
 obtain ⟨A,cap,hv,hle⟩:∃A cap,v= .slice A n cap∧n≤cap:=by
  rcases hown.2 with ⟨h1,h2⟩|⟨g,cap,cur,h1,_,_,h2,_⟩
  ·exact ⟨none,0,by rw[h1,h2],by omega⟩
  ·exact ⟨_,cap,h1,h2⟩
 subst hv
 clear hr hown' hg hat hc h1
 have hn2:n≤9223372036854775807:=by omega
 have u1:=run_underlying (P:=prog) underlying218
 have u2:=run_underlying (P:=prog) underlying217
 rcases Nat.eq_or_lt_of_le hle with he|he
 ·subst he
  go_enter func229,ntmps229
  go_wp2_with (at_builtin;refine zaO HR.out rfl rfl rfl rfl ?_)
  go_ret
  exact HO.out
 ·have hne:¬cap=n:=by omega
  go_enter func229,ntmps229
  go_wp2_with (at_builtin;refine zaO HR.out rfl rfl rfl rfl ?_)
  go_ret
  exact HO.out
theorem zpU (w:World)(g cap n i:Nat)(cur:Array Value)(cs ys:List Value)(ad:Addr)(c:Nat)(hg:w.heap[g]? =some (.cells cur 233 (0,0)))(hcap:n+1≤cap)(hcm:cap≤maxLen)(hcs:cur.size=cap*5)(htake:cur.toList.take (n*5)=cs)(hcl:cs.length=n*5)(hi:i<n)
  (hy:ys.length=5) (hc:∀j u,ys[j]? =some u→w.cell? (ad.add j)=some u) (h1:∀u∈ys,u.oneCell'=true) (h1c:∀u∈cs,u.oneCell'=true) (hne:ad.block≠g):
  Calls prog 229 #[.slice (some ⟨g,0,none⟩) n cap,.int .i64 i,.slice (some ad) 1 c] w (zaC prog 233 5 w (.slice (some ⟨g,0,none⟩) n cap) n i cs ys):=by
 have u1:=run_underlying (P:=prog) underlying218
 have u2:=run_underlying (P:=prog) underlying217
 have hn2:n≤9223372036854775806:=by unfold maxLen at hcm;omega
 have hcm2:cap≤9223372036854775807:=by unfold maxLen at hcm;omega
 have hz2:¬((i:Int)=(n:Int)):=by omega
 have hi2:i≤n:=by omega
 have hb2:¬(cap=i+1):=by omega
 have hb4:¬(cap=i):=by omega
 have hi3:(i:Int)≤(n:Int)+1:=by omega
 have hw1:IntKind.i64.wrap ((i:Int)+1)=(i:Int)+1:=by rw[IntKind.wrap_i64];omega
 have hw2:IntKind.i64.wrap ((n:Int)+1)=(n:Int)+1:=by rw[IntKind.wrap_i64];omega
 have htn:((i:Int)+1).toNat=i+1:=by omega
 have htn2:((n:Int)+1).toNat=n+1:=by omega
 have hroom:¬((cap:Int)<(n:Int)+1):=by omega
 have hb1:(0:Int)≤(i:Int)+1:=by omega
 have mixed:prog.follows .mixedOrders=true:=by kernel_rfl
 obtain ⟨u0,hu0⟩:∃u,ys[0]? =some u:=⟨_,List.getElem?_eq_getElem (by omega)⟩
 have hov:∀lb cb,(callFunc 244 #[.slice (some ad) 1 c,.slice (some ⟨g,(i+1)*5,none⟩) lb cb]).run prog w= .ok (.value (.bool false)) w:=fun lb cb=>by
  rw[run_callFunc_extern func244 (by kernel_rfl) (by kernel_rfl) (by kernel_rfl) (e:=Extern.SlicesOverlaps.overlaps #[217,217] #[4]) (by kernel_rfl),
   zeU w 217 4 233 underlying217 5 (fun _=>by first|rfl|kernel_rfl) ad ⟨g,(i+1)*5,none⟩ 1 c lb cb hne (by have:=hc 0 u0 hu0;simpa [Addr.add] using this) hg (by omega)]
  rfl
 have hi1:(i+1)*5≤n*5:=by omega
 have hdl:(cs.drop (i*5)).length=(n - i)*5:=by rw[List.length_drop,hcl,Nat.sub_mul]
 obtain ⟨c1,hc1⟩:∃c1,c1=(cur.toList.take ((i+1)*5)++cs.drop (i*5)++cur.toList.drop ((i+1)*5+(cs.drop (i*5)).length)).toArray:=⟨_,rfl⟩
 have hc1s:c1.size=cur.size:=by rw[hc1];simp [hcl];omega
 have hgd:w.drew.heap[g]? =some (.cells cur 233 (0,0)):=hg
 have hcsat:∀j u,cs[j]? =some u→w.cell? ⟨g,j,none⟩=some u:=fun j u hj=>by
  refine zh hg ?_
  rw[←htake,List.getElem?_take] at hj
  split at hj
  ·simpa using hj
  ·cases hj
 have hcp1:∀ty dc sc,(Builtin.copy_ #[218,218] ty #[.slice (some ⟨g,(i+1)*5,none⟩) (n - i) dc,.slice (some ⟨g,i*5,none⟩) (n+1 - i) sc]).run prog w.drew=(.ok (goInt (Nat.min (n+1 - i) (n - i))) (w.drew.setRow g c1)):=fun ty dc sc=>by
  rw[hc1]
  exact zbx w.drew _ _ ty 233 5 g ((i+1)*5) _ dc ⟨g,i*5,none⟩ _ sc cur _ (cs.drop (i*5)) underlying218 (by kernel_rfl) hgd (by rw[hdl];congr 1;simp only [Nat.min_def];split<;>omega)
   (fun j v hj=>by
    rw[List.getElem?_drop] at hj
    have:=hcsat _ v hj
    have e:(⟨g,i*5,none⟩:Addr).add j=⟨g,i*5+j,none⟩:=by unfold Addr.add;split<;>simp_all
    rw[e];exact this) (by rw[hdl,hcs];omega) (fun v hv=>h1c v (List.mem_of_mem_drop hv))
 obtain ⟨c2,hc2⟩:∃c2,c2=(c1.toList.take (i*5)++ys++c1.toList.drop (i*5+ys.length)).toArray:=⟨_,rfl⟩
 have hcp2:∀ty dc,(Builtin.copy_ #[218,217] ty #[.slice (some ⟨g,i*5,none⟩) (n+1 - i) dc,.slice (some ad) 1 c]).run prog (w.drew.setRow g c1)= .ok (goInt (Nat.min 1 (n+1 - i))) ((w.drew.setRow g c1).setRow g c2):=fun ty dc=>by
  rw[hc2]
  refine zbx (w.drew.setRow g c1) _ _ ty 233 5 g (i*5) _ dc ad 1 c c1 233 ys underlying218 (by kernel_rfl) (setRow_heap _ g cur c1 _ _ hgd) (by rw[hy];simp only [Nat.min_def];split<;>omega)
   (fun j v hj=>?_) (by rw[hy,hc1s,hcs];omega) h1
  rw[World.cell?_of_block (w:=w)]
  ·exact hc j v hj
  ·rw[zE];exact setRow_other w.drew g ad.block c1 hne
 have HO:Hid (zaC prog 233 5 w (.slice (some ⟨g,0,none⟩) n cap) n i cs ys (.returned (.slice (some ⟨g,0,none⟩) (n+1) cap)) ((w.drew.setRow g c1).setRow g c2)):=by
  refine ⟨_,rfl,⟨?_,.inr ⟨g,cap,c2,rfl,Nat.zero_le _,setRow_heap _ g c1 c2 _ _ (setRow_heap _ g cur c1 _ _ hgd),hcap,hcm,?_,?_⟩⟩,?_,.inl rfl⟩
  ·simp only [List.length_append,List.length_take,hcl,hy,hdl];omega
  ·rw[hc2];simp [hy,hc1s];omega
  ·have e1:(i+1)*5=i*5+5:=by omega
   have e2:(n+1)*5=i*5+(n - i)*5+5:=by omega
   have e3:n*5=i*5+(n - i)*5:=by omega
   rw[hc2,hc1,e1,e2]
   rw[e3] at htake hcl
   exact zmx htake hcl (by omega) hy
  ·exact ⟨rfl,rfl,rfl,by simp only [World.setRow,Array.size_modify];exact Nat.le_refl _,fun k _ hk=>(setRow_other _ g k c2 (fun e=>hk (by simp [Value.ownBlock,e]))).trans (setRow_other w.drew g k c1 (fun e=>hk (by simp [Value.ownBlock,e])))⟩
 have HP1:=Lib.hid hcp1;have HP2:=Lib.hid hcp2
 clear hc h1 h1c hg htake hcl hcp1 hcp2 hc1 hc2 hc1s hcsat hgd hdl hi1
 go_enter func229,ntmps229
 go_wp2_with (simp only [hov])
 go_region_law_o (refine zef rfl _ _ 218 218 rfl (.slice (some ⟨g,(i+1)*5,none⟩) (n - i) (cap - (i+1))) (.slice (some ⟨g,i*5,none⟩) (n+1 - i) (cap - i)) (by simp [Act.eval,Act.put]) (by simp [Act.eval,Act.put]) (HP1.out 3 (cap - (i+1)) (cap - i)) ?_)
 go_wp2_with (refine zcY (HP2.out _ _) rfl rfl rfl rfl ?_)
 go_ret
 exact HO.out
theorem zpV (w:World)(g cap n i:Nat)(cur:Array Value)(cs ys:List Value)(ad:Addr)(c:Nat)(hg:w.heap[g]? =some (.cells cur 233 (0,0)))(hnc:n≤cap)(hcap:cap<n+1)(hcm:cap≤maxLen)(hcs:cur.size=cap*5)(htake:cur.toList.take (n*5)=cs)(hcl:cs.length=n*5)(hi:i<n)(hbytes:(n+1)*40≤140737488351232)
  (hy:ys.length=5) (hc:∀j u,ys[j]? =some u→w.cell? (ad.add j)=some u) (h1:∀u∈ys,u.oneCell'=true) (h1c:∀u∈cs,u.oneCell'=true) (hne:ad.block≠g):
  Calls prog 229 #[.slice (some ⟨g,0,none⟩) n cap,.int .i64 i,.slice (some ad) 1 c] w (zaC prog 233 5 w (.slice (some ⟨g,0,none⟩) n cap) n i cs ys):=by
 have u1:=run_underlying (P:=prog) underlying218
 have u2:=run_underlying (P:=prog) underlying217
 have mixed:prog.follows .mixedOrders=true:=by kernel_rfl
 obtain ⟨i0,hin,hz0⟩:=Option.map_eq_some_iff.1 (show (prog.info? 233).map (fun i=>(i.zero,i.size,i.bytes))=some (some (.agg #[.pointer none,.pointer none,.pointer none,.pointer none,.pointer none]),5,40) from by kernel_rfl)
 simp only [Prod.mk.injEq] at hz0
 have hn2:n≤9223372036854775806:=by omega
 have hz2:¬((i:Int)=(n:Int)):=by omega
 have hi2:i≤n:=by omega
 have hb4:¬(cap=i):=by omega
 have hi3:(i:Int)≤(n:Int)+1:=by omega
 have hw1:IntKind.i64.wrap ((i:Int)+1)=(i:Int)+1:=by rw[IntKind.wrap_i64];omega
 have hw2:IntKind.i64.wrap ((n:Int)+1)=(n:Int)+1:=by rw[IntKind.wrap_i64];omega
 have hw3:IntKind.i64.wrap ((n:Int)+1 - i)=(n:Int)+1 - i:=by rw[IntKind.wrap_i64];omega
 have htn:((i:Int)+1).toNat=i+1:=by omega
 have hroom:(cap:Int)<(n:Int)+1:=by omega
 have hic:i≤cap:=by omega
 have hb1:(0:Int)≤(i:Int)+1:=by omega
 have hkk:(n:Int)+1 - (i:Int)=((n+1 - i:Nat):Int):=by omega
 have hik:i+(n+1 - i)=n+1:=by omega
 have hdl:(cs.drop (i*5)).length=(n - i)*5:=by rw[List.length_drop,hcl,Nat.sub_mul]
 have hcsat:∀j u,cs[j]? =some u→w.cell? ⟨g,j,none⟩=some u:=fun j u hj=>by
  refine zh hg ?_
  rw[←htake,List.getElem?_take] at hj
  split at hj
  ·simpa using hj
  ·cases hj
 have hold:(Builtin.firstCells i0.size i (.slice (some ⟨g,0,none⟩) i cap)).run prog w.drew= .ok (cs.take (i*5)).toArray w.drew:=by
  rw[hz0.2.1]
  exact run_firstCells_some w.drew 5 i ⟨g,0,none⟩ i cap (cs.take (i*5)) (by rw[List.length_take,hcl];omega) (fun j v hj=>by
   rw[List.getElem?_take] at hj
   split at hj
   ·have e:(⟨g,0,none⟩:Addr).add j=⟨g,j,none⟩:=by unfold Addr.add;split<;>simp_all
    rw[e];exact hcsat j v hj
   ·cases hj)
 obtain ⟨G,hG⟩:∃G,G=grownCap w (n+1) cap 233:=⟨_,rfl⟩
 obtain ⟨ROW,hROW⟩:∃ROW:Array Value,ROW=(cs.take (i*5)).toArray++Builtin.zeroCells (Value.agg #[.pointer none,.pointer none,.pointer none,.pointer none,.pointer none]).cells (n+1 - i)++Builtin.zeroCells (Value.agg #[.pointer none,.pointer none,.pointer none,.pointer none,.pointer none]).cells (G - (n+1)):=⟨_,rfl⟩
 have hGn:n+1≤G:=by rw[hG];exact grownCap_ge w _ _ _
 have hGm:G≤maxLen:=by rw[hG];exact grownCap_le_maxLen w (n+1) cap 233 (by simp only [maxLen];omega)
 have hG63:G≤9223372036854775807:=by unfold maxLen at hGm;omega
 have hrz:∀ty,(Builtin.append_ #[218,3] ty #[.slice (some ⟨g,0,none⟩) i cap,.int .i64 ((n:Int)+1 - (i:Int))]).run prog w=
   .ok (.slice (some ⟨w.heap.size,0,none⟩) (n+1) G) (w.drew.alloc (.cells ROW 233)):=fun ty=>by
  have h:=Go.Lib.run_append_grow_zeros w 218 3 ty 233 i0 _ .i64 .i64 underlying218 underlying3 hin hz0.1 (some ⟨g,0,none⟩) i cap (cs.take (i*5)) hold (n+1 - i) (by omega) (by rw[hz0.2.1];omega) (by omega) (by omega) (by rw[hz0.2.2];omega) (by rw[hz0.2.2,hik];exact growslice_fits (by omega) (by omega))
  rw[hik] at h
  rw[hkk,hROW,hG]
  exact h
 have hRs:ROW.size=G*5:=by
  rw[hROW]
  simp [Builtin.zeroCells,Value.cells,hcl]
  omega
 have hRt:ROW.toList.take (i*5)=cs.take (i*5):=by
  rw[hROW]
  simp only [Array.toList_append]
  rw[List.append_assoc]
  exact List.take_left' (by rw[List.length_take,hcl];omega)
 obtain ⟨W1,hW1⟩:∃W1,W1=w.drew.alloc (.cells ROW 233):=⟨_,rfl⟩
 rw[←hW1] at hrz
 have hB1:W1.heap[w.heap.size]? =some (.cells ROW 233 (0,0)):=by rw[hW1];exact heap_alloc_new w.drew _
 have hOld:∀k,k<w.heap.size→W1.heap[k]? =w.heap[k]? :=fun k hk=>by rw[hW1];exact heap_alloc_old w.drew _ hk
 have hgw:g<w.heap.size:=(Array.getElem?_eq_some_iff.1 hg).1
 obtain ⟨u0,hu0⟩:∃u,ys[0]? =some u:=⟨_,List.getElem?_eq_getElem (by omega)⟩
 have haw:ad.block<w.heap.size:=by have:=zdQ (hc 0 u0 hu0);rwa[zE] at this
 obtain ⟨c1,hc1⟩:∃c1,c1=(ROW.toList.take (i*5)++ys++ROW.toList.drop (i*5+ys.length)).toArray:=⟨_,rfl⟩
 have hc1s:c1.size=ROW.size:=by rw[hc1];simp [hy];omega
 have hcp1:∀ty dc,(Builtin.copy_ #[218,217] ty #[.slice (some ⟨w.heap.size,i*5,none⟩) (n+1 - i) dc,.slice (some ad) 1 c]).run prog W1= .ok (goInt (Nat.min 1 (n+1 - i))) (W1.setRow w.heap.size c1):=fun ty dc=>by
  rw[hc1]
  exact zbx W1 _ _ ty 233 5 w.heap.size (i*5) _ dc ad 1 c ROW 233 ys underlying218 (by kernel_rfl) hB1 (by rw[hy];simp only [Nat.min_def];split<;>omega)
   (fun j v hj=>(World.cell?_of_block (by rw[zE];exact hOld _ haw)).trans (hc j v hj)) (by rw[hy,hRs];omega) h1
 obtain ⟨c2,hc2⟩:∃c2,c2=(c1.toList.take ((i+1)*5)++cs.drop (i*5)++c1.toList.drop ((i+1)*5+(cs.drop (i*5)).length)).toArray:=⟨_,rfl⟩
 have hB2:(W1.setRow w.heap.size c1).drew.heap[w.heap.size]? =some (.cells c1 233 (0,0)):=setRow_heap W1 w.heap.size ROW c1 _ _ hB1
 have hcp2:∀ty dc sc,(Builtin.copy_ #[218,218] ty #[.slice (some ⟨w.heap.size,(i+1)*5,none⟩) (n - i) dc,.slice (some ⟨g,i*5,none⟩) (n - i) sc]).run prog (W1.setRow w.heap.size c1).drew= .ok (goInt (Nat.min (n - i) (n - i))) ((W1.setRow w.heap.size c1).drew.setRow w.heap.size c2):=fun ty dc sc=>by
  rw[hc2]
  refine zbx (W1.setRow w.heap.size c1).drew _ _ ty 233 5 w.heap.size ((i+1)*5) _ dc ⟨g,i*5,none⟩ _ sc c1 233 (cs.drop (i*5)) underlying218 (by kernel_rfl) hB2 (by rw[hdl];congr 1;simp [Nat.min_def])
   (fun j v hj=>?_) (by rw[hdl,hc1s,hRs];omega) (fun v hv=>h1c v (List.mem_of_mem_drop hv))
  rw[List.getElem?_drop] at hj
  have:=hcsat _ v hj
  have e:(⟨g,i*5,none⟩:Addr).add j=⟨g,i*5+j,none⟩:=by unfold Addr.add;split<;>simp_all
  rw[e]
  refine (World.cell?_of_block ?_).trans this
  exact (setRow_other W1 w.heap.size g c1 (by omega)).trans (hOld g hgw)
 have HO:Hid (zaC prog 233 5 w (.slice (some ⟨g,0,none⟩) n cap) n i cs ys (.returned (.slice (some ⟨w.heap.size,0,none⟩) (n+1) G)) ((W1.setRow w.heap.size c1).drew.setRow w.heap.size c2)):=by
  have hsz:W1.heap.size=w.heap.size+1:=by rw[hW1];exact zC w.drew _
  refine ⟨_,rfl,⟨?_,.inr ⟨w.heap.size,G,c2,rfl,Nat.zero_le _,setRow_heap _ w.heap.size c1 c2 _ _ hB2,hGn,hGm,?_,?_⟩⟩,⟨?_,?_,?_,?_,fun k hk _=>?_⟩,.inr ⟨w.heap.size,rfl,Nat.le_refl _,?_⟩⟩
  ·simp only [List.length_append,List.length_take,hcl,hy,hdl];omega
  ·rw[hc2];simp [hcl,hc1s,hRs];omega
  ·have e1:(i+1)*5=i*5+5:=by omega
   have e2:(n+1)*5=i*5+(n - i)*5+5:=by omega
   have e3:n*5=i*5+(n - i)*5:=by omega
   rw[hc2,e1,e2]
   rw[e3] at hcl
   exact zkq (row:=ROW.toList) hRt (by simp [hRs];omega) hcl hy (by rw[hc1])
  ·rw[hW1];rfl
  ·rw[hW1];rfl
  ·rw[hW1];rfl
  ·show w.heap.size≤(World.setRow _ _ _).heap.size
   simp only [World.setRow,World.drew,Array.size_modify,hsz];omega
  ·exact ((setRow_other _ w.heap.size k c2 (by omega)).trans (setRow_other W1 w.heap.size k c1 (by omega))).trans (hOld k hk)
  ·show w.heap.size<(World.setRow _ _ _).heap.size
   simp only [World.setRow,World.drew,Array.size_modify,hsz];omega
 have HRZ:=Lib.hid hrz;have HP1:=Lib.hid hcp1;have HP2:=Lib.hid hcp2
 have hGi:¬(G=i):=by omega
 have hGi1:¬(G=i+1):=by omega
 clear hc h1 h1c hg htake hcl hcp1 hcp2 hc1 hc2 hc1s hcsat hdl hrz hRs hRt hROW hG hold hB1 hB2 hOld hW1 hin hz0 hkk hik
 go_enter func229,ntmps229
 go_wp2_with (first
  |(at_builtin;refine zaO (HRZ.out _) rfl rfl rfl rfl ?_)
  |(refine zcY (HP1.out _ _) rfl rfl rfl rfl ?_))
 go_region_law_o (refine zef rfl _ _ 218 218 rfl (.slice (some ⟨w.heap.size,(i+1)*5,none⟩) (n - i) (G - (i+1))) (.slice (some ⟨g,i*5,none⟩) (n - i) (cap - i)) (by simp [Act.eval,Act.put]) (by simp [Act.eval,Act.put]) (HP2.out 3 (G - (i+1)) (cap - i)) ?_)
 go_wp2
 go_ret
 exact HO.out
theorem znN (w:World)(v:Value)(n i:Nat)(cs ys:List Value)(ad:Addr)(c:Nat)(hown:w.ownsRow 0 233 5 v n cs)(hi:i≤n)(hy:ys.length=5)(hc:∀j u,ys[j]? =some u→w.cell? (ad.add j)=some u)(h1:∀u∈ys,u.oneCell'=true)(h1c:∀u∈cs,u.oneCell'=true)(hne:v.ownBlock≠some ad.block)(hn:(n+1)*40≤140737488351232):
  Calls prog 229 #[v,.int .i64 i,.slice (some ad) 1 c] w (zaC prog 233 5 w v n i cs ys):=by
 by_cases e:i=n
 ·subst e;exact zr2 w v i cs ys ad c hown hy hc h1 hn
 ·obtain ⟨g,cap,cur,rfl,h2,h3,h4,h5,h6⟩:=World.ownsRow.one hown (by omega)
  have hne':ad.block≠g:=fun h=>hne (by rw[h];rfl)
  by_cases hr:n+1≤cap
  ·exact zpU w g cap n i cur cs ys ad c h2 hr h4 h5 h6 hown.1 (by omega) hy hc h1 h1c hne'
  ·exact zpV w g cap n i cur cs ys ad c h2 h3 (by omega) h4 h5 h6 hown.1 (by omega) hn hy hc h1 h1c hne'
end Go.Smd
end
