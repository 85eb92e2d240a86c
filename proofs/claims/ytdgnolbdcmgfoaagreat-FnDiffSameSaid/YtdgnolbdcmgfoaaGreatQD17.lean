/- Part 17. -/
import Derived.Test.YtdgnolbdcmgfoaaGreatQD14
import Derived.Test.YtdgnolbdcmgfoaaGreatQD16
set_option linter.unusedVariables false
set_option linter.unusedSimpArgs false
set_option maxRecDepth 100000
set_option maxHeartbeats 8000000
section
namespace Go.Smd
open Go.RowKit Go.Proofs Go.Proofs.Tryz
theorem zcD (m:List (ByteArray×Tree)):ACalls prog 359 [.c (.d (.mp m))] (fun r=>r=aV (.int .i64 m.length)):=by
 refine zf [] func359 (by kernel_rfl) rfl ntmps359 results359 (Nat.le_of_ble_eq_true (by kernel_rfl)) ?_;intro hok w0 S0
 (repeat' (first|(with_reducible first|refine zj (fun _=>?_) (fun _=>?_)|refine zi (fun _=>?_) (fun _=>?_)|refine zk zb (by kernel_rfl) ?_|exact za rfl)|(simp -dsimp)));(all_goals try with_reducible refine za ?_)
 all_goals rfl
theorem zwD (m:List (ByteArray×Tree))(hnd:(m.map (·.1)).Nodup)(k:ByteArray):ACalls prog 356 [.c (.d (.mp m)),aV (.string k)] (fun r=>r=aV (.bool (zai m k).isSome)):=by
 refine zf [] func356 (by kernel_rfl) rfl ntmps356 results356 (Nat.le_of_ble_eq_true (by kernel_rfl)) ?_;intro hok w0 S0
 (repeat' (first|(with_reducible first|refine zj (fun _=>?_) (fun _=>?_)|refine zi (fun _=>?_) (fun _=>?_)|refine zk zb (by kernel_rfl) ?_|exact za rfl)|(simp -dsimp [hnd])));(all_goals try with_reducible refine za ?_)
 all_goals rfl
def dG:Option Tree→D
 |some t=>dV t
 |none=>.v .nilIface
theorem Zr (m:List (ByteArray×Tree))(hnd:(m.map (·.1)).Nodup)(k:ByteArray):ACalls prog 355 [.c (.d (.mp m)),Z4,aV (.string k)] (fun r=>r= .tup [(false,[.d (dG (zai m k))]),(false,[.d (.v (.bool (zai m k).isSome))])]):=by
 cases hg:zai m k with
 |none=>
  refine zf [] func355 (by kernel_rfl) rfl ntmps355 results355 (Nat.le_of_ble_eq_true (by kernel_rfl)) ?_;intro hok w0 S0
  (repeat' (first|(with_reducible first|refine zj (fun _=>?_) (fun _=>?_)|refine zi (fun _=>?_) (fun _=>?_))|((with_reducible apply zc6 [] (f:=181));(case hc=>simp -dsimp [hnd,hg];first|exact ⟨rfl,rfl⟩|exact ⟨rfl,rfl,rfl⟩);(case hf=>exact func181);(case hA=>simp -dsimp [hnd,hg]<;>with_reducible rfl);(case hok=>simp -dsimp [hnd,hg]);(case hY=>simp -dsimp [hnd,hg]<;>with_reducible rfl);(case hO=>simp -dsimp [hnd,hg]<;>with_reducible rfl);(case hn=>kernel_rfl);(case hb=>rfl);(case hN=>exact ntmps181);(case hrs=>exact results181);(case hl=>exact Nat.le_of_ble_eq_true (by kernel_rfl));intro hok w0 S0)|(with_reducible first|refine zk zb (by kernel_rfl) ?_|exact za rfl)|(simp -dsimp [hnd,hg])));(all_goals try with_reducible refine za ?_)
  all_goals rfl
 |some t=>
  refine zf [] func355 (by kernel_rfl) rfl ntmps355 results355 (Nat.le_of_ble_eq_true (by kernel_rfl)) ?_;intro hok w0 S0
  (repeat' (first|(with_reducible first|refine zj (fun _=>?_) (fun _=>?_)|refine zi (fun _=>?_) (fun _=>?_))|((with_reducible apply zc6 [] (f:=181));(case hc=>simp -dsimp [hnd,hg];first|exact ⟨rfl,rfl⟩|exact ⟨rfl,rfl,rfl⟩);(case hf=>exact func181);(case hA=>simp -dsimp [hnd,hg]<;>with_reducible rfl);(case hok=>simp -dsimp [hnd,hg]);(case hY=>simp -dsimp [hnd,hg]<;>with_reducible rfl);(case hO=>simp -dsimp [hnd,hg]<;>with_reducible rfl);(case hn=>kernel_rfl);(case hb=>rfl);(case hN=>exact ntmps181);(case hrs=>exact results181);(case hl=>exact Nat.le_of_ble_eq_true (by kernel_rfl));intro hok w0 S0)|((with_reducible apply zcH (ρ:=[(1000000000,20004)]) 7 (zfT (.tr t) (.v .nilIface)));(case hc=>simp -dsimp [hnd,hg]<;>first|exact ⟨rfl,rfl,rfl⟩|exact ⟨rfl,rfl⟩|done);(case hx=>simp -dsimp [hnd,hg]<;>with_reducible rfl);(case ho=>simp -dsimp [hnd,hg]);(case hh=>simp -dsimp [hnd,hg]);(case hb=>simp -dsimp [hnd,hg]))|(with_reducible first|refine zk zb (by kernel_rfl) ?_|exact za rfl)|(simp -dsimp [hnd,hg])));(all_goals try with_reducible refine za ?_)
  all_goals rfl
abbrev zk3:FuncId:=369
abbrev zk4:FuncId:=370
abbrev zem:TypeId:=24
abbrev zeC:TypeId:=9
abbrev zd7 (l:List ByteArray):List (List D):=l.map fun s=>[.v (.string s)]
theorem zcV {k:ByteArray}:∀{left:List ByteArray},left.Nodup→k∈left→left.Perm (k::left.filter fun x=>decide (x≠k))
 | [],_,h=>by cases h
 |x::l,hn,h=>by
  rw[List.nodup_cons] at hn
  by_cases e:x=k
  ·subst e
   have h1:(l.filter fun y=>decide (y≠x))=l:=List.filter_eq_self.2 fun y hy=>by
    have:y≠x:=fun e=>hn.1 (e▸hy)
    simpa using this
   rw[List.filter_cons_of_neg (by simp),h1]
  ·have hk:k∈l:=by rcases List.mem_cons.1 h with h|h;exact absurd h.symm e;exact h
   rw[List.filter_cons_of_pos (by simpa using e)]
   exact ((zcV hn.2 hk).cons x).trans (List.Perm.swap ..)
theorem AProc.drop {P:Program}{f:FuncId}{args:List Av}{own:List (Nat×Ow)}{R R':Av→List (Nat×Ow)→Prop}(h:AProc P f args own R)
  (k:∀r own',R r own'→∃own'',R' r own''∧(∀p∈own'',zd own' p.1=some p.2)∧zg [] own''=true∧r.plain=true):AProc P f args own R':=
 ⟨h.1,fun w E β vs s ha=>(h.2 w E β vs s ha).mono fun e w' ⟨v,r,β',own',h1,h2,h3,h4⟩=>by
  obtain ⟨own'',g1,g2,g3,g4⟩:=k r own' h2
  obtain ⟨β'',s''⟩:=Weak.same (P:=P) (N:=0) (w0:=w) (S0:=E) (σ:=⟨[],own'⟩) (tl:=[]) (hl:=own'') (fun p hp=>by cases hp) g2 g3 β' zhG w' h3
  exact ⟨v,r,β'',own'',h1,g1,s'',zjy g4 h4⟩⟩
def zvr (f:FuncId)(z:List Cl)(ver:Nat)(l:List ByteArray)(own':List (Nat×Ow)):Prop:=
 zd own' 1000000000=some (.clo (.fn f) (.own 1000000001 0::z))∧zd own' 1000000001=some (.cells [.gs 1000000002 ver] zem)∧zd own' 1000000002=some (.arr ver zeC (zd7 l))
def zro (m1:List (ByteArray×Tree))(ver:Nat)(l:List ByteArray)(own':List (Nat×Ow)):Prop:=
 zd own' 1000000000=some (.clo (.fn zk4) [.own 1000000003 0,.own 1000000001 0])∧zd own' 1000000001=some (.cells [.gs 1000000002 ver] zem)∧zd own' 1000000002=some (.arr ver zeC (zd7 l))∧zd own' 1000000003=some (.cells [.d (dM m1)] 329)
theorem znm (m:List (ByteArray×Tree))(hnd:(m.map (·.1)).Nodup)(ver:Nat)(l:List ByteArray)(hl:l.length+m.length≤4000000000000):
  AProc prog 358 [.c (.d (.mp m)),Z4,.c (.fn 1000000000)] [(1000000000,.clo (.fn zk3) [.own 1000000001 0]),(1000000001,.cells [.gs 1000000002 ver] zem),(1000000002,.arr ver zeC (zd7 l))]
   (fun r own'=>∃q:List ByteArray,q.Perm (m.map (·.1))∧r=aV (.bool true)∧zvr zk3 [] (ver+m.length) (l++q) own'):=by
 refine zaj [] func358 (by kernel_rfl) rfl ntmps358 results358 (Nat.le_of_ble_eq_true (by kernel_rfl)) ?_;intro hok w0 S0
 (repeat' (first|(with_reducible first|refine zj (fun _=>?_) (fun _=>?_)|refine zi (fun _=>?_) (fun _=>?_))|((with_reducible apply zc6 [] (f:=181));(case hc=>simp -dsimp [hnd];first|exact ⟨rfl,rfl⟩|exact ⟨rfl,rfl,rfl⟩);(case hf=>exact func181);(case hA=>simp -dsimp [hnd]<;>with_reducible rfl);(case hok=>simp -dsimp [hnd]);(case hY=>simp -dsimp [hnd]<;>with_reducible rfl);(case hO=>simp -dsimp [hnd]<;>with_reducible rfl);(case hn=>kernel_rfl);(case hb=>rfl);(case hN=>exact ntmps181);(case hrs=>exact results181);(case hl=>exact Nat.le_of_ble_eq_true (by kernel_rfl));intro hok w0 S0)|((with_reducible apply zfP);(case hx=>simp -dsimp [hnd];with_reducible rfl);(case hd=>exact zfS))|((with_reducible apply zcq);(case hx=>simp -dsimp [hnd];first|done|with_reducible rfl);(case hid=>simp -dsimp [hnd];first|done|with_reducible rfl|exact ⟨rfl,rfl,rfl⟩|exact ⟨rfl,rfl⟩);(case' h1=>intro _ _ _);(case' h0=>intro _))|((with_reducible apply zbL);(case hx=>simp -dsimp [hnd];first|done|with_reducible rfl);(case hid=>simp -dsimp [hnd];first|done|with_reducible rfl|exact ⟨rfl,rfl,rfl⟩|exact ⟨rfl,rfl⟩))|((with_reducible apply zbK);(case hx=>simp -dsimp [hnd];with_reducible rfl);(case hT=>simp -dsimp [hnd]);(case hnd=>assumption);(case hz=>simp -dsimp [hnd]))|(with_reducible first|refine zk zb (by kernel_rfl) ?_|exact za rfl)|(simp -dsimp [hnd])));(all_goals try with_reducible refine za ?_)
 ·have e:m= []:=by assumption
  subst e
  exact ⟨[],List.Perm.refl _,rfl,by simp [zvr,zd]⟩
 ·refine zF (fun x:List ByteArray×List ByteArray×D×Option ByteArray=>⟨[(1,Z4),(2,.c (.fn 1000000000)),(7,.c (.own 15004 0)),(20,.c (.fn 20))],[(20,.clo (.it m x.1 x.2.2.2) []),(15004,cVU x.2.2.1),(1000000000,.clo (.fn zk3) [.own 1000000001 0]),(1000000001,.cells [.gs 1000000002 (ver+x.2.1.length)] zem),(1000000002,.arr (ver+x.2.1.length) zeC (zd7 (l++x.2.1)))]⟩)
   (fun x=>x.1.Nodup∧(x.2.1++x.1).Perm (m.map (·.1))) (fun x=>x.1.length) (m.map (·.1),[],.v .nilIface,none) ?_ ⟨hnd,List.Perm.refl _⟩ ?_
  ·exact Weak.same (by simp -dsimp [List.length_nil,Nat.add_zero,List.append_nil]) (by simp -dsimp [List.length_nil,Nat.add_zero,List.append_nil]) (by first|rfl|(simp [zg,Av.ids,Ow.ids,Cl.ids,Go.Smd.keys];done))
  ·rintro ⟨left,dn,y,cur⟩ ⟨hnl,hpm⟩ K hK
   dsimp only at hnl hpm hK ⊢
   have hlen:=hpm.length_eq
   simp only [List.length_append,List.length_map] at hlen
   have hb:(l.length+dn.length+1)*16≤140737488351232:=by omega
   (repeat' (first|(with_reducible first|refine zj (fun _=>?_) (fun _=>?_)|refine zi (fun _=>?_) (fun _=>?_))|((with_reducible apply zcH (ρ:=[(1000000000,15004)]) 7 (by rename_i k hk hs;exact zfT (.tr ((zai m k).getD .nil)) y));(case hc=>simp -dsimp [hnd,zc,hb]<;>first|exact ⟨rfl,rfl,rfl⟩|exact ⟨rfl,rfl⟩|done);(case hx=>simp -dsimp [hnd,zc,hb]<;>with_reducible rfl);(case ho=>simp -dsimp [hnd,zc,hb]);(case hh=>simp -dsimp [hnd,zc,hb]);(case hb=>simp -dsimp [hnd,zc,hb]))|((with_reducible apply zc6 [] (f:=369));(case hc=>simp -dsimp [hnd,zc,hb];first|exact ⟨rfl,rfl⟩|exact ⟨rfl,rfl,rfl⟩);(case hf=>exact func369);(case hA=>simp -dsimp [hnd,zc,hb]<;>with_reducible rfl);(case hok=>simp -dsimp [hnd,zc,hb]);(case hY=>simp -dsimp [hnd,zc,hb]<;>with_reducible rfl);(case hO=>simp -dsimp [hnd,zc,hb]<;>with_reducible rfl);(case hn=>kernel_rfl);(case hb=>rfl);(case hN=>exact ntmps369);(case hrs=>exact results369);(case hl=>exact Nat.le_of_ble_eq_true (by kernel_rfl));intro hok w0 S0)|((with_reducible apply zcq);(case hx=>simp -dsimp [hnd,zc,hb];first|done|with_reducible rfl);(case hid=>simp -dsimp [hnd,zc,hb];first|done|with_reducible rfl|exact ⟨rfl,rfl,rfl⟩|exact ⟨rfl,rfl⟩);(case' h1=>intro _ _ _);(case' h0=>intro _))|((with_reducible apply zbL);(case hx=>simp -dsimp [hnd,zc,hb];first|done|with_reducible rfl);(case hid=>simp -dsimp [hnd,zc,hb];first|done|with_reducible rfl|exact ⟨rfl,rfl,rfl⟩|exact ⟨rfl,rfl⟩))|((with_reducible apply zbK);(case hx=>simp -dsimp [hnd,zc,hb];with_reducible rfl);(case hT=>simp -dsimp [hnd,zc,hb]);(case hnd=>assumption);(case hz=>simp -dsimp [hnd,zc,hb]))|(with_reducible first|refine zk zb (by kernel_rfl) ?_|exact za rfl)|(simp -dsimp [hnd,zc,hb])));(all_goals try with_reducible refine za ?_)
   ·have e:left= []:=by assumption
    subst e
    rw[List.append_nil] at hpm
    have e2:dn.length=m.length:=by simpa using hlen
    exact ⟨dn,hpm,rfl,by simp [zvr,zd,e2]⟩
   ·rename_i k hk hs
    have hp:=zcV hnl hk
    have hp2:=hp.length_eq
    simp only [List.length_cons] at hp2
    refine hK _ (left.filter fun x=>decide (x≠k),dn++ [k],.tr ((zai m k).getD .nil),some k) ?_ ⟨hnl.filter _,?_⟩ (by dsimp only;omega)
    ·exact Weak.same (by simp -dsimp [Nat.add_assoc]) (by simp -dsimp [Nat.add_assoc]) (by first|rfl|(simp [zg,Av.ids,Ow.ids,Cl.ids,Go.Smd.keys];done))
    ·refine List.Perm.trans ?_ hpm
     rw[List.append_assoc]
     exact List.Perm.append_left dn hp.symm
abbrev zbM (m1:List (ByteArray×Tree))(k:ByteArray):Bool:= !(zai m1 k).isSome
theorem znn (m1 m:List (ByteArray×Tree))(hnd1:(m1.map (·.1)).Nodup)(hnd:(m.map (·.1)).Nodup)(ver:Nat)(l:List ByteArray)(hl:l.length+m.length≤4000000000000):
  AProc prog 358 [.c (.d (.mp m)),Z4,.c (.fn 1000000000)] [(1000000000,.clo (.fn zk4) [.own 1000000003 0,.own 1000000001 0]),(1000000001,.cells [.gs 1000000002 ver] zem),(1000000002,.arr ver zeC (zd7 l)),(1000000003,.cells [.d (dM m1)] 329)]
   (fun r own'=>∃q:List ByteArray,q.Perm (m.map (·.1))∧r=aV (.bool true)∧zro m1 (ver+(q.filter (zbM m1)).length) (l++q.filter (zbM m1)) own'):=by
 refine zaj [] func358 (by kernel_rfl) rfl ntmps358 results358 (Nat.le_of_ble_eq_true (by kernel_rfl)) ?_;intro hok w0 S0
 (repeat' (first|(with_reducible first|refine zj (fun _=>?_) (fun _=>?_)|refine zi (fun _=>?_) (fun _=>?_))|((with_reducible apply zc6 [] (f:=181));(case hc=>simp -dsimp [hnd];first|exact ⟨rfl,rfl⟩|exact ⟨rfl,rfl,rfl⟩);(case hf=>exact func181);(case hA=>simp -dsimp [hnd]<;>with_reducible rfl);(case hok=>simp -dsimp [hnd]);(case hY=>simp -dsimp [hnd]<;>with_reducible rfl);(case hO=>simp -dsimp [hnd]<;>with_reducible rfl);(case hn=>kernel_rfl);(case hb=>rfl);(case hN=>exact ntmps181);(case hrs=>exact results181);(case hl=>exact Nat.le_of_ble_eq_true (by kernel_rfl));intro hok w0 S0)|((with_reducible apply zfP);(case hx=>simp -dsimp [hnd];with_reducible rfl);(case hd=>exact zfS))|((with_reducible apply zcq);(case hx=>simp -dsimp [hnd];first|done|with_reducible rfl);(case hid=>simp -dsimp [hnd];first|done|with_reducible rfl|exact ⟨rfl,rfl,rfl⟩|exact ⟨rfl,rfl⟩);(case' h1=>intro _ _ _);(case' h0=>intro _))|((with_reducible apply zbL);(case hx=>simp -dsimp [hnd];first|done|with_reducible rfl);(case hid=>simp -dsimp [hnd];first|done|with_reducible rfl|exact ⟨rfl,rfl,rfl⟩|exact ⟨rfl,rfl⟩))|((with_reducible apply zbK);(case hx=>simp -dsimp [hnd];with_reducible rfl);(case hT=>simp -dsimp [hnd]);(case hnd=>assumption);(case hz=>simp -dsimp [hnd]))|(with_reducible first|refine zk zb (by kernel_rfl) ?_|exact za rfl)|(simp -dsimp [hnd])));(all_goals try with_reducible refine za ?_)
 ·have e:m= []:=by assumption
  subst e
  exact ⟨[],List.Perm.refl _,rfl,by simp [zro,zd]⟩
 ·refine zF (fun x:List ByteArray×List ByteArray×D×Option ByteArray=>⟨[(1,Z4),(2,.c (.fn 1000000000)),(7,.c (.own 15004 0)),(20,.c (.fn 20))],[(20,.clo (.it m x.1 x.2.2.2) []),(15004,cVU x.2.2.1),(1000000000,.clo (.fn zk4) [.own 1000000003 0,.own 1000000001 0]),(1000000001,.cells [.gs 1000000002 (ver+(x.2.1.filter (zbM m1)).length)] zem),(1000000002,.arr (ver+(x.2.1.filter (zbM m1)).length) zeC (zd7 (l++x.2.1.filter (zbM m1)))),(1000000003,.cells [.d (dM m1)] 329)]⟩)
   (fun x=>x.1.Nodup∧(x.2.1++x.1).Perm (m.map (·.1))) (fun x=>x.1.length) (m.map (·.1),[],.v .nilIface,none) ?_ ⟨hnd,List.Perm.refl _⟩ ?_
  ·exact Weak.same (by simp -dsimp [List.length_nil,Nat.add_zero,List.append_nil]) (by simp -dsimp [List.length_nil,Nat.add_zero,List.append_nil]) (by first|rfl|(simp [zg,Av.ids,Ow.ids,Cl.ids,Go.Smd.keys];done))
  ·rintro ⟨left,dn,y,cur⟩ ⟨hnl,hpm⟩ K hK
   dsimp only at hnl hpm hK ⊢
   have hlen:=hpm.length_eq
   simp only [List.length_append,List.length_map] at hlen
   have hfl:=List.length_filter_le (zbM m1) dn
   obtain ⟨rw,hrw⟩:∃rw,rw=dn.filter (zbM m1):=⟨_,rfl⟩
   rw[←hrw] at hfl
   have hb:(l.length+rw.length+1)*16≤140737488351232:=by omega
   simp only [←hrw]
   (repeat' (first|(with_reducible first|refine zj (fun _=>?_) (fun _=>?_)|refine zi (fun _=>?_) (fun _=>?_))|((with_reducible apply zcH (ρ:=[(1000000000,15004)]) 7 (by rename_i k hk hs;exact zfT (.tr ((zai m k).getD .nil)) y));(case hc=>simp -dsimp [hnd,hnd1,zc,hb]<;>first|exact ⟨rfl,rfl,rfl⟩|exact ⟨rfl,rfl⟩|done);(case hx=>simp -dsimp [hnd,hnd1,zc,hb]<;>with_reducible rfl);(case ho=>simp -dsimp [hnd,hnd1,zc,hb]);(case hh=>simp -dsimp [hnd,hnd1,zc,hb]);(case hb=>simp -dsimp [hnd,hnd1,zc,hb]))|(with_reducible refine zl (zwD m1 hnd1 _) (by first|rfl|(simp -dsimp [hnd,hnd1,zc,hb];done)) ?_)|((with_reducible apply zc6 [] (f:=370));(case hc=>simp -dsimp [hnd,hnd1,zc,hb];first|exact ⟨rfl,rfl⟩|exact ⟨rfl,rfl,rfl⟩);(case hf=>exact func370);(case hA=>simp -dsimp [hnd,hnd1,zc,hb]<;>with_reducible rfl);(case hok=>simp -dsimp [hnd,hnd1,zc,hb]);(case hY=>simp -dsimp [hnd,hnd1,zc,hb]<;>with_reducible rfl);(case hO=>simp -dsimp [hnd,hnd1,zc,hb]<;>with_reducible rfl);(case hn=>kernel_rfl);(case hb=>rfl);(case hN=>exact ntmps370);(case hrs=>exact results370);(case hl=>exact Nat.le_of_ble_eq_true (by kernel_rfl));intro hok w0 S0)|((with_reducible apply zcq);(case hx=>simp -dsimp [hnd,hnd1,zc,hb];first|done|with_reducible rfl);(case hid=>simp -dsimp [hnd,hnd1,zc,hb];first|done|with_reducible rfl|exact ⟨rfl,rfl,rfl⟩|exact ⟨rfl,rfl⟩);(case' h1=>intro _ _ _);(case' h0=>intro _))|((with_reducible apply zbL);(case hx=>simp -dsimp [hnd,hnd1,zc,hb];first|done|with_reducible rfl);(case hid=>simp -dsimp [hnd,hnd1,zc,hb];first|done|with_reducible rfl|exact ⟨rfl,rfl,rfl⟩|exact ⟨rfl,rfl⟩))|((with_reducible apply zbK);(case hx=>simp -dsimp [hnd,hnd1,zc,hb];with_reducible rfl);(case hT=>simp -dsimp [hnd,hnd1,zc,hb]);(case hnd=>assumption);(case hz=>simp -dsimp [hnd,hnd1,zc,hb]))|(with_reducible first|refine zk zb (by kernel_rfl) ?_|exact za rfl)|(simp -dsimp [hnd,hnd1,zc,hb])));(all_goals try with_reducible refine za ?_)
   ·have e:left= []:=by assumption
    subst e
    rw[List.append_nil] at hpm
    exact ⟨dn,hpm,rfl,by simp [zro,zd,hrw]⟩
   ·rename_i k hk hs hq
    have hp:=zcV hnl hk
    have hp2:=hp.length_eq
    simp only [List.length_cons] at hp2
    have hq2:zbM m1 k=true:=by simpa using hq
    have e3:(dn++ [k]).filter (zbM m1)=rw++ [k]:=by rw[List.filter_append,←hrw,List.filter_cons_of_pos hq2];rfl
    refine hK _ (left.filter fun x=>decide (x≠k),dn++ [k],.tr ((zai m k).getD .nil),some k) ?_ ⟨hnl.filter _,?_⟩ (by dsimp only;omega)
    ·simp only [e3]
     exact Weak.same (by simp -dsimp [Nat.add_assoc]) (by simp -dsimp [Nat.add_assoc]) (by first|rfl|(simp [zg,Av.ids,Ow.ids,Cl.ids,Go.Smd.keys];done))
    ·refine List.Perm.trans ?_ hpm
     rw[List.append_assoc]
     exact List.Perm.append_left dn hp.symm
   ·rename_i k hk hs hq
    have hp:=zcV hnl hk
    have hp2:=hp.length_eq
    simp only [List.length_cons] at hp2
    have hq2:¬zbM m1 k=true:=by cases h:zai m1 k<;>simp_all [zbM]
    have e3:(dn++ [k]).filter (zbM m1)=rw:=by rw[List.filter_append,←hrw,List.filter_cons_of_neg hq2];simp
    refine hK _ (left.filter fun x=>decide (x≠k),dn++ [k],.tr ((zai m k).getD .nil),some k) ?_ ⟨hnl.filter _,?_⟩ (by dsimp only;omega)
    ·simp only [e3]
     exact Weak.same (by simp -dsimp [Nat.add_assoc]) (by simp -dsimp [Nat.add_assoc]) (by first|rfl|(simp [zg,Av.ids,Ow.ids,Cl.ids,Go.Smd.keys];done))
    ·refine List.Perm.trans ?_ hpm
     rw[List.append_assoc]
     exact List.Perm.append_left dn hp.symm
theorem zno (m:List (ByteArray×Tree))(hnd:(m.map (·.1)).Nodup)(ver:Nat)(l:List ByteArray)(hl:l.length+m.length≤4000000000000):
  AProc prog 358 [.c (.d (.mp m)),Z4,.c (.fn 1000000000)] [(1000000000,.clo (.fn zk3) [.own 1000000001 0]),(1000000001,.cells [.gs 1000000002 ver] zem),(1000000002,.arr ver zeC (zd7 l))]
   (fun r own'=>∃q:List ByteArray,q.Perm (m.map (·.1))∧r=aV (.bool true)∧own'= [(1000000001,.cells [.gs 1000000002 (ver+m.length)] zem),(1000000002,.arr (ver+m.length) zeC (zd7 (l++q)))]):=
 (znm m hnd ver l hl).drop fun r own' ⟨q,hq,hr,h1,h2,h3⟩=>⟨_,⟨q,hq,hr,rfl⟩,by
  intro p hp
  simp only [List.mem_cons,List.not_mem_nil,or_false] at hp
  rcases hp with rfl|rfl
  ·exact h2
  ·exact h3,by rfl,by rw[hr];rfl⟩
theorem znp (m1 m:List (ByteArray×Tree))(hnd1:(m1.map (·.1)).Nodup)(hnd:(m.map (·.1)).Nodup)(ver:Nat)(l:List ByteArray)(hl:l.length+m.length≤4000000000000):
  AProc prog 358 [.c (.d (.mp m)),Z4,.c (.fn 1000000000)] [(1000000000,.clo (.fn zk4) [.own 1000000003 0,.own 1000000001 0]),(1000000001,.cells [.gs 1000000002 ver] zem),(1000000002,.arr ver zeC (zd7 l)),(1000000003,.cells [.d (dM m1)] 329)]
   (fun r own'=>∃q:List ByteArray,q.Perm (m.map (·.1))∧r=aV (.bool true)∧own'= [(1000000001,.cells [.gs 1000000002 (ver+(q.filter (zbM m1)).length)] zem),(1000000002,.arr (ver+(q.filter (zbM m1)).length) zeC (zd7 (l++q.filter (zbM m1)))),(1000000003,.cells [.d (dM m1)] 329)]):=
 (znn m1 m hnd1 hnd ver l hl).drop fun r own' ⟨q,hq,hr,h1,h2,h3,h4⟩=>⟨_,⟨q,hq,hr,rfl⟩,by
  intro p hp
  simp only [List.mem_cons,List.not_mem_nil,or_false] at hp
  rcases hp with rfl|rfl|rfl
  ·exact h2
  ·exact h3
  ·exact h4,by rfl,by rw[hr];rfl⟩
def zgu (c:Tree→Tree→Int):List Tree→List Tree→Int
 | [],[]=>0
 | [],_::_=> -1
 |_::_,[]=>1
 |x::xs,y::ys=>if c x y≠0 then c x y else zgu c xs ys
def yv (l:List Tree):Nat→D
 |0=>.v .nilIface
 |i+1=>.tr (l.getD i .nil)
abbrev zbm:FuncId:=231
theorem zfp (c:Tree→Tree→Int)(l m:List Tree)(hl:l.length≤140737488351232)(hm:m.length≤140737488351232)
  (hc:∀x∈l,∀y∈m,ACalls prog zbm [Z4,.c (.d (dV x)),.c (.d (dV y))] (fun r=>r=aV (.int .i64 (c x y)))):
  ACalls prog 250 [Z4,.c (.d (dL l)),.c (.d (dL m))] (fun r=>r=aV (.int .i64 (zgu c l m))):=by
 have hl2:l.length≤9223372036854775807:=by omega
 have hm2:m.length≤9223372036854775807:=by omega
 refine zf [] func250 (by kernel_rfl) rfl ntmps250 results250 (Nat.le_of_ble_eq_true (by kernel_rfl)) ?_;intro hok w0 S0
 (repeat' (first|(with_reducible first|refine zj (fun _=>?_) (fun _=>?_)|refine zi (fun _=>?_) (fun _=>?_))|((with_reducible apply zc6 [] (f:=348));(case hc=>simp -dsimp [hl2,hm2];first|exact ⟨rfl,rfl⟩|exact ⟨rfl,rfl,rfl⟩);(case hf=>exact func348);(case hA=>simp -dsimp [hl2,hm2]<;>with_reducible rfl);(case hok=>simp -dsimp [hl2,hm2]);(case hY=>simp -dsimp [hl2,hm2]<;>with_reducible rfl);(case hO=>simp -dsimp [hl2,hm2]<;>with_reducible rfl);(case hn=>kernel_rfl);(case hb=>rfl);(case hN=>exact ntmps348);(case hrs=>exact results348);(case hl=>exact Nat.le_of_ble_eq_true (by kernel_rfl));intro hok w0 S0)|((with_reducible apply zc6 [] (f:=336));(case hc=>simp -dsimp [hl2,hm2];first|exact ⟨rfl,rfl⟩|exact ⟨rfl,rfl,rfl⟩);(case hf=>exact func336);(case hA=>simp -dsimp [hl2,hm2]<;>with_reducible rfl);(case hok=>simp -dsimp [hl2,hm2]);(case hY=>simp -dsimp [hl2,hm2]<;>with_reducible rfl);(case hO=>simp -dsimp [hl2,hm2]<;>with_reducible rfl);(case hn=>kernel_rfl);(case hb=>rfl);(case hN=>exact ntmps336);(case hrs=>exact results336);(case hl=>exact Nat.le_of_ble_eq_true (by kernel_rfl));intro hok w0 S0)|((with_reducible apply zfP);(case hx=>simp -dsimp [hl2,hm2];with_reducible rfl);(case hd=>exact zfS))|(with_reducible first|refine zk zb (by kernel_rfl) ?_|exact za rfl)|(simp -dsimp [hl2,hm2])));(all_goals try with_reducible refine za ?_)
 ·have e1:l= []:=by assumption
  have e2:m= []:=by assumption
  refine zF (fun _:Unit=>⟨[(0,Z4),(7,.c (.io 470 19010 0)),(8,.c (.io 470 25010 0))],[(19010,.cells [] 471),(25010,.cells [] 471)]⟩) (fun _=>True) (fun _=>0) () ?_ trivial ?_
  ·exact Weak.same (by simp -dsimp) (by simp -dsimp) (by first|rfl|(simp [zg,Av.ids,Ow.ids,Cl.ids,Go.Smd.keys];done))
  ·rintro _ _ K hK
   (repeat' (first|(with_reducible first|refine zj (fun _=>?_) (fun _=>?_)|refine zi (fun _=>?_) (fun _=>?_))|((with_reducible apply zc6 [] (f:=374));(case hc=>simp -dsimp;first|exact ⟨rfl,rfl⟩|exact ⟨rfl,rfl,rfl⟩);(case hf=>exact func374);(case hA=>simp -dsimp<;>with_reducible rfl);(case hok=>simp -dsimp);(case hY=>simp -dsimp<;>with_reducible rfl);(case hO=>simp -dsimp<;>with_reducible rfl);(case hn=>kernel_rfl);(case hb=>rfl);(case hN=>exact ntmps374);(case hrs=>exact results374);(case hl=>exact Nat.le_of_ble_eq_true (by kernel_rfl));intro hok w0 S0)|(with_reducible first|refine zk zb (by kernel_rfl) ?_|exact za rfl)|(simp -dsimp)));(all_goals try with_reducible refine za ?_)
   all_goals (subst e1;subst e2;rfl)
 ·have e1:l= []:=by assumption
  have e2:m≠ []:=by assumption
  have e3:0<m.length:=List.length_pos_iff.2 e2
  have e4:(-1:Int)+1<m.length:=by omega
  refine zF (fun _:Unit=>⟨[(0,Z4),(7,.c (.io 470 19010 0)),(8,.c (.io 467 39006 0))],[(19010,.cells [] 471),(39006,zk1 m 39004 (-1)),(39004,cVU (.v .nilIface))]⟩) (fun _=>True) (fun _=>0) () ?_ trivial ?_
  ·exact Weak.same (by simp -dsimp) (by simp -dsimp) (by first|rfl|(simp [zg,Av.ids,Ow.ids,Cl.ids,Go.Smd.keys];done))
  ·rintro _ _ K hK
   (repeat' (first|(with_reducible first|refine zj (fun _=>?_) (fun _=>?_)|refine zi (fun _=>?_) (fun _=>?_))|((with_reducible apply zc6 [] (f:=374));(case hc=>simp -dsimp [e3];first|exact ⟨rfl,rfl⟩|exact ⟨rfl,rfl,rfl⟩);(case hf=>exact func374);(case hA=>simp -dsimp [e3]<;>with_reducible rfl);(case hok=>simp -dsimp [e3]);(case hY=>simp -dsimp [e3]<;>with_reducible rfl);(case hO=>simp -dsimp [e3]<;>with_reducible rfl);(case hn=>kernel_rfl);(case hb=>rfl);(case hN=>exact ntmps374);(case hrs=>exact results374);(case hl=>exact Nat.le_of_ble_eq_true (by kernel_rfl));intro hok w0 S0)|((with_reducible apply zcH (ρ:=[(1000000000,39006),(1000000001,39004)]) 7 (zk2 m (-1) (by omega) (by omega) hm (.v .nilIface)));(case hc=>simp -dsimp [e3]<;>first|exact ⟨rfl,rfl,rfl⟩|exact ⟨rfl,rfl⟩|done);(case hx=>simp -dsimp [e3]<;>with_reducible rfl);(case ho=>simp -dsimp [e3]);(case hh=>simp -dsimp [e3]);(case hb=>simp -dsimp [e3]))|(with_reducible first|refine zk zb (by kernel_rfl) ?_|exact za rfl)|(simp -dsimp [e3])));(all_goals try with_reducible refine za ?_)
   all_goals (subst e1;cases m with|nil=>exact absurd rfl e2|cons y ys=>rfl)
 ·have e1:l≠ []:=by assumption
  have e2:m= []:=by assumption
  have e3:0<l.length:=List.length_pos_iff.2 e1
  have e4:(-1:Int)+1<l.length:=by omega
  refine zF (fun _:Unit=>⟨[(0,Z4),(7,.c (.io 467 33006 0)),(8,.c (.io 470 25010 0))],[(33006,zk1 l 33004 (-1)),(33004,cVU (.v .nilIface)),(25010,.cells [] 471)]⟩) (fun _=>True) (fun _=>0) () ?_ trivial ?_
  ·exact Weak.same (by simp -dsimp) (by simp -dsimp) (by first|rfl|(simp [zg,Av.ids,Ow.ids,Cl.ids,Go.Smd.keys];done))
  ·rintro _ _ K hK
   (repeat' (first|(with_reducible first|refine zj (fun _=>?_) (fun _=>?_)|refine zi (fun _=>?_) (fun _=>?_))|((with_reducible apply zc6 [] (f:=374));(case hc=>simp -dsimp [e3];first|exact ⟨rfl,rfl⟩|exact ⟨rfl,rfl,rfl⟩);(case hf=>exact func374);(case hA=>simp -dsimp [e3]<;>with_reducible rfl);(case hok=>simp -dsimp [e3]);(case hY=>simp -dsimp [e3]<;>with_reducible rfl);(case hO=>simp -dsimp [e3]<;>with_reducible rfl);(case hn=>kernel_rfl);(case hb=>rfl);(case hN=>exact ntmps374);(case hrs=>exact results374);(case hl=>exact Nat.le_of_ble_eq_true (by kernel_rfl));intro hok w0 S0)|((with_reducible apply zcH (ρ:=[(1000000000,33006),(1000000001,33004)]) 7 (zk2 l (-1) (by omega) (by omega) hl (.v .nilIface)));(case hc=>simp -dsimp [e3]<;>first|exact ⟨rfl,rfl,rfl⟩|exact ⟨rfl,rfl⟩|done);(case hx=>simp -dsimp [e3]<;>with_reducible rfl);(case ho=>simp -dsimp [e3]);(case hh=>simp -dsimp [e3]);(case hb=>simp -dsimp [e3]))|(with_reducible first|refine zk zb (by kernel_rfl) ?_|exact za rfl)|(simp -dsimp [e3])));(all_goals try with_reducible refine za ?_)
   all_goals (subst e2;cases l with|nil=>exact absurd rfl e1|cons y ys=>rfl)
 ·have e1:l≠ []:=by assumption
  have e2:m≠ []:=by assumption
  refine zF (fun i:Nat=>⟨[(0,Z4),(7,.c (.io 467 33006 0)),(8,.c (.io 467 39006 0))],[(33006,zk1 l 33004 ((i:Int) - 1)),(33004,cVU (yv l i)),(39006,zk1 m 39004 ((i:Int) - 1)),(39004,cVU (yv m i))]⟩) (fun i=>i≤l.length∧i≤m.length∧zgu c l m=zgu c (l.drop i) (m.drop i)) (fun i=>l.length - i) 0 ?_ ⟨Nat.zero_le _,Nat.zero_le _,rfl⟩ ?_
  ·exact Weak.same (by simp -dsimp [yv]) (by simp -dsimp [yv]) (by first|rfl|(simp [zg,Av.ids,Ow.ids,Cl.ids,Go.Smd.keys];done))
  ·rintro i ⟨hi1,hi2,hi3⟩ K hK
   have a1:((i:Int) - 1)+1=(i:Int):=by omega
   have hn1:=zk2 l ((i:Int) - 1) (by omega) (by omega) hl (yv l i)
   have hn2:=zk2 m ((i:Int) - 1) (by omega) (by omega) hm (yv m i)
   rw[a1] at hn1 hn2
   by_cases c1:i<l.length
   ·by_cases c2:i<m.length
    ·have hcons:zgu c (l.drop i) (m.drop i)=(if c l[i] m[i]≠0 then c l[i] m[i] else zgu c (l.drop (i+1)) (m.drop (i+1))):=by rw[List.drop_eq_getElem_cons c1,List.drop_eq_getElem_cons c2];rfl
     have hi:((i:Int)<l.length):=by omega
     have hj:((i:Int)<m.length):=by omega
     (repeat' (first|(with_reducible first|refine zj (fun _=>?_) (fun _=>?_)|refine zi (fun _=>?_) (fun _=>?_))|((with_reducible apply zcH (ρ:=[(1000000000,33006),(1000000001,33004)]) 7 (hn1));(case hc=>simp -dsimp [c1,c2,hi,hj]<;>first|exact ⟨rfl,rfl,rfl⟩|exact ⟨rfl,rfl⟩|done);(case hx=>simp -dsimp [c1,c2,hi,hj]<;>with_reducible rfl);(case ho=>simp -dsimp [c1,c2,hi,hj]);(case hh=>simp -dsimp [c1,c2,hi,hj]);(case hb=>simp -dsimp [c1,c2,hi,hj]))|((with_reducible apply zcH (ρ:=[(1000000000,39006),(1000000001,39004)]) 7 (hn2));(case hc=>simp -dsimp [c1,c2,hi,hj]<;>first|exact ⟨rfl,rfl,rfl⟩|exact ⟨rfl,rfl⟩|done);(case hx=>simp -dsimp [c1,c2,hi,hj]<;>with_reducible rfl);(case ho=>simp -dsimp [c1,c2,hi,hj]);(case hh=>simp -dsimp [c1,c2,hi,hj]);(case hb=>simp -dsimp [c1,c2,hi,hj]))|((with_reducible apply zcH (ρ:=[(1000000000,33006),(1000000001,33004)]) 7 (zrn l i c1 hl (yv l i)));(case hc=>simp -dsimp [c1,c2,hi,hj]<;>first|exact ⟨rfl,rfl,rfl⟩|exact ⟨rfl,rfl⟩|done);(case hx=>simp -dsimp [c1,c2,hi,hj]<;>with_reducible rfl);(case ho=>simp -dsimp [c1,c2,hi,hj]);(case hh=>simp -dsimp [c1,c2,hi,hj]);(case hb=>simp -dsimp [c1,c2,hi,hj]))|((with_reducible apply zcH (ρ:=[(1000000000,39006),(1000000001,39004)]) 7 (zrn m i c2 hm (yv m i)));(case hc=>simp -dsimp [c1,c2,hi,hj]<;>first|exact ⟨rfl,rfl,rfl⟩|exact ⟨rfl,rfl⟩|done);(case hx=>simp -dsimp [c1,c2,hi,hj]<;>with_reducible rfl);(case ho=>simp -dsimp [c1,c2,hi,hj]);(case hh=>simp -dsimp [c1,c2,hi,hj]);(case hb=>simp -dsimp [c1,c2,hi,hj]))|(with_reducible first|refine zwt (hc _ (List.getElem_mem c1) _ (List.getElem_mem c2)) (by first|rfl|(simp -dsimp [c1,c2,hi,hj];done)) rfl ?_|refine zk zb (by kernel_rfl) ?_|exact za rfl)|(simp -dsimp [c1,c2,hi,hj])));(all_goals try with_reducible refine za ?_)
     ·rename_i hn
      rw[hi3,hcons,if_pos (by simpa using hn)]
     ·rename_i hn
      refine hK _ (i+1) ?_ ⟨by omega,by omega,by rw[hi3,hcons,if_neg (by simpa using hn)]⟩ (by omega)
      have a3:(((i+1:Nat):Int) - 1)=i:=by omega
      have hy1:yv l (i+1)= .tr l[i]:=by simp [yv,c1]
      have hy2:yv m (i+1)= .tr m[i]:=by simp [yv,c2]
      exact Weak.same (by simp -dsimp [a3,hy1,hy2]) (by simp -dsimp [a3,hy1,hy2]) (by first|rfl|(simp [zg,Av.ids,Ow.ids,Cl.ids,Go.Smd.keys];done))
    ·have hi:((i:Int)<l.length):=by omega
     have hj:¬((i:Int)<m.length):=by omega
     (repeat' (first|(with_reducible first|refine zj (fun _=>?_) (fun _=>?_)|refine zi (fun _=>?_) (fun _=>?_))|((with_reducible apply zcH (ρ:=[(1000000000,33006),(1000000001,33004)]) 7 (hn1));(case hc=>simp -dsimp [c1,c2,hi,hj]<;>first|exact ⟨rfl,rfl,rfl⟩|exact ⟨rfl,rfl⟩|done);(case hx=>simp -dsimp [c1,c2,hi,hj]<;>with_reducible rfl);(case ho=>simp -dsimp [c1,c2,hi,hj]);(case hh=>simp -dsimp [c1,c2,hi,hj]);(case hb=>simp -dsimp [c1,c2,hi,hj]))|((with_reducible apply zcH (ρ:=[(1000000000,39006),(1000000001,39004)]) 7 (hn2));(case hc=>simp -dsimp [c1,c2,hi,hj]<;>first|exact ⟨rfl,rfl,rfl⟩|exact ⟨rfl,rfl⟩|done);(case hx=>simp -dsimp [c1,c2,hi,hj]<;>with_reducible rfl);(case ho=>simp -dsimp [c1,c2,hi,hj]);(case hh=>simp -dsimp [c1,c2,hi,hj]);(case hb=>simp -dsimp [c1,c2,hi,hj]))|(with_reducible first|refine zk zb (by kernel_rfl) ?_|exact za rfl)|(simp -dsimp [c1,c2,hi,hj])));(all_goals try with_reducible refine za ?_)
     all_goals (rw[hi3,List.drop_eq_getElem_cons c1,List.drop_eq_nil_of_le (show m.length≤i by omega)];rfl)
   ·by_cases c2:i<m.length
    ·have hi:¬((i:Int)<l.length):=by omega
     have hj:((i:Int)<m.length):=by omega
     (repeat' (first|(with_reducible first|refine zj (fun _=>?_) (fun _=>?_)|refine zi (fun _=>?_) (fun _=>?_))|((with_reducible apply zcH (ρ:=[(1000000000,33006),(1000000001,33004)]) 7 (hn1));(case hc=>simp -dsimp [c1,c2,hi,hj]<;>first|exact ⟨rfl,rfl,rfl⟩|exact ⟨rfl,rfl⟩|done);(case hx=>simp -dsimp [c1,c2,hi,hj]<;>with_reducible rfl);(case ho=>simp -dsimp [c1,c2,hi,hj]);(case hh=>simp -dsimp [c1,c2,hi,hj]);(case hb=>simp -dsimp [c1,c2,hi,hj]))|((with_reducible apply zcH (ρ:=[(1000000000,39006),(1000000001,39004)]) 7 (hn2));(case hc=>simp -dsimp [c1,c2,hi,hj]<;>first|exact ⟨rfl,rfl,rfl⟩|exact ⟨rfl,rfl⟩|done);(case hx=>simp -dsimp [c1,c2,hi,hj]<;>with_reducible rfl);(case ho=>simp -dsimp [c1,c2,hi,hj]);(case hh=>simp -dsimp [c1,c2,hi,hj]);(case hb=>simp -dsimp [c1,c2,hi,hj]))|(with_reducible first|refine zk zb (by kernel_rfl) ?_|exact za rfl)|(simp -dsimp [c1,c2,hi,hj])));(all_goals try with_reducible refine za ?_)
     all_goals (rw[hi3,List.drop_eq_nil_of_le (show l.length≤i by omega),List.drop_eq_getElem_cons c2];rfl)
    ·have hi:¬((i:Int)<l.length):=by omega
     have hj:¬((i:Int)<m.length):=by omega
     (repeat' (first|(with_reducible first|refine zj (fun _=>?_) (fun _=>?_)|refine zi (fun _=>?_) (fun _=>?_))|((with_reducible apply zcH (ρ:=[(1000000000,33006),(1000000001,33004)]) 7 (hn1));(case hc=>simp -dsimp [c1,c2,hi,hj]<;>first|exact ⟨rfl,rfl,rfl⟩|exact ⟨rfl,rfl⟩|done);(case hx=>simp -dsimp [c1,c2,hi,hj]<;>with_reducible rfl);(case ho=>simp -dsimp [c1,c2,hi,hj]);(case hh=>simp -dsimp [c1,c2,hi,hj]);(case hb=>simp -dsimp [c1,c2,hi,hj]))|((with_reducible apply zcH (ρ:=[(1000000000,39006),(1000000001,39004)]) 7 (hn2));(case hc=>simp -dsimp [c1,c2,hi,hj]<;>first|exact ⟨rfl,rfl,rfl⟩|exact ⟨rfl,rfl⟩|done);(case hx=>simp -dsimp [c1,c2,hi,hj]<;>with_reducible rfl);(case ho=>simp -dsimp [c1,c2,hi,hj]);(case hh=>simp -dsimp [c1,c2,hi,hj]);(case hb=>simp -dsimp [c1,c2,hi,hj]))|(with_reducible first|refine zk zb (by kernel_rfl) ?_|exact za rfl)|(simp -dsimp [c1,c2,hi,hj])));(all_goals try with_reducible refine za ?_)
     all_goals (rw[hi3,List.drop_eq_nil_of_le (show l.length≤i by omega),List.drop_eq_nil_of_le (show m.length≤i by omega)];rfl)
end Go.Smd
end
