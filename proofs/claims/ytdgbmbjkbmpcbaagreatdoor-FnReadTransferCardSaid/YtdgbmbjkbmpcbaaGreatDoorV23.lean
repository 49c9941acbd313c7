/- Contracts of functions and own laws. Conditions: those that each theorem states. -/
import Derived.Test.YtdgbmbjkbmpcbaaGreatDoorV22
set_option linter.all false
set_option autoImplicit true
set_option relaxedAutoImplicit true
set_option maxRecDepth 20000
namespace Go.Proofs.LL
open Go Go.Proofs Go.RowKit
set_option maxHeartbeats 4000000
attribute [local irreducible] ar WL WC cq WT WX
def aX:V:= .mk 0 0 [] [] 0 []
def bA(ks:List V)(j:Nat):V:=ks[j]?.getD aX
theorem bW{ks:List V}(h:j<ks.length):ks[j]=bA ks j:=by simp[bA,h]
def kp(y:V):Prop:=y.kind=0∧y.desc=[]
def wN(k:Int)(y:V)(t:List UInt8):Prop:=(kp y∧t=[])∨(y.kind=k∧y.desc=[]∧y.text=t)
def pS(k:Int)(y:V)(n d:Nat):Prop:=(kp y∧n=d)∨(y.kind=k∧y.desc=[]∧y.num=n)
def ic(l:List V):Prop:=cG l∧iI l∧∀x∈aP l,x.kind=19∨x.kind=20
def ye(y:V)(l:List V):Prop:=(kp y∧l=[])∨(y.kind=22∧y.desc=[]∧y.kids=l∧ic l)
def gH(N0:Nat)(l:List V)(w:World)(v:Value):Prop:=
 (l=[]∧v= .map none)∨(∃m ss,v= .map (some m)∧N0≤m∧cT w m (ss.map xP)∧cC (fun b=>N0≤b) w l ss)
def kI(N0:Nat)(ts:List (List UInt8))(w:World)(v:Value):Prop:=
 (ts=[]∧v= .slice none 0 0)∨(∃g,v= .slice (some ⟨g,0,none⟩) ts.length ts.length∧N0≤g∧aH w g (ts.map str))
theorem gH.m(h:gH N0 l w v)(h1:rb<N0)(h2:xb<N0)(e:am (fun k=>k≠rb∧k≠xb) w w'):gH N0 l w' v:=by
 rcases h with h|⟨m,ss,h3,h4,h5,h6⟩
 ·exact .inl h
 ·exact .inr ⟨m,ss,h3,h4,h5.m e (by show m≠rb∧m≠xb;omega),h6.m e (fun b _ hb=>by show b≠rb∧b≠xb;omega)⟩
theorem gH.low(h:gH N1 l w v)(hN:N0≤N1):gH N0 l w v:=by
 rcases h with h|⟨m,ss,h3,h4,h5,h6⟩
 ·exact .inl h
 ·exact .inr ⟨m,ss,h3,Nat.le_trans hN h4,h5,h6.k fun b h=>Nat.le_trans hN h⟩
theorem kI.low(h:kI N1 ts w v)(hN:N0≤N1):kI N0 ts w v:=by
 rcases h with h|⟨g,h3,h4,h5⟩
 ·exact .inl h
 ·exact .inr ⟨g,h3,Nat.le_trans hN h4,h5⟩
theorem kI.m(h:kI N0 ts w v)(h1:rb<N0)(h2:xb<N0)(e:am (fun k=>k≠rb∧k≠xb) w w'):kI N0 ts w' v:=by
 rcases h with h|⟨g,h3,h4,h5⟩
 ·exact .inl h
 ·exact .inr ⟨g,h3,h4,h5.m e (by show g≠rb∧g≠xb;omega)⟩
theorem g8.pc(h:g8 y bs)(hd:y.desc=[]):∃c data,bs=c::data∧Pc y c data:=by
 cases h with
 |desc h _ _=>rw[hd]at h;cases h
 |plain _ hP=>exact⟨_,_,rfl,hP⟩
theorem Pc.mapI(h:Pc y c data)(hk:y.kind=22):∃hd body,data=hd++body∧bw y.kids body∧Hd 0xc1 0xd1 c hd y.kids.length body:=by
 obtain⟨k,n,t,ks,o,d⟩:=y
 simp only[V.kind]at hk
 subst hk
 cases h
 case num s hc=>simp[iS]at hc
 case map h1 h2=>exact⟨_,_,rfl,h1,h2⟩
theorem Pc.listI(h:Pc y c data)(hk:y.kind=21):∃hd body,c::data=hd++body∧bw y.kids body∧di hd y.kids.length body:=by
 obtain⟨k,n,t,ks,o,d⟩:=y
 simp only[V.kind]at hk
 subst hk
 cases h
 case num s hc=>simp[iS]at hc
 case list0=>exact⟨[0x45],[],rfl,.nil,.inl ⟨rfl,rfl,rfl⟩⟩
 case list hd body h1 h2=>exact⟨c::hd,body,rfl,h1,h2.lst⟩
theorem g8.comp{z:V}(h:g8 y bs)(hk:y.kind=21)(hd:y.desc=[z])(hz:z.desc=[]):∃cu du hd body,bs=0::((cu::du)++(hd++body))∧Pc z cu du∧bw y.kids body∧di hd y.kids.length body:=by
 cases h with
 |plain h _=>rw[hd]at h;cases h
 |desc h1 h2 h3=>
  rw[hd]at h1
  cases h1
  obtain⟨cu,du,rfl,hP⟩:=h2.pc hz
  obtain⟨hd',body,hb,hE,hL⟩:=h3.listI hk
  exact⟨cu,du,hd',body,by rw[hb],hP,hE,hL⟩
theorem zJ(h:ic l):∀x∈l,gl x:=rG l h.1
abbrev mI(rb xb j:Nat)(wi:World)(cs:List Value)(rest:List UInt8)(f:Value)(G:World→Value→Prop):Prop:=
 ah TP 83 [.pointer (some ⟨rb,0,none⟩),f] wi fun u w'=>u= .nilIface∧(∃v,aH w' xb (cs.set j v)∧G w' v)∧Rd w' rb rest∧am (fun k=>k≠rb∧k≠xb) wi w'
section
variable {rb xb j:Nat} {wi:World} {cs:List Value} {y:V} {bs rest:List UInt8}
theorem Ea{k:Int}(hk:k=19∨k=20)(hf:wN k y t)(hE:g8 y bs)(hne:y.kind≠0)(hB:aH wi xb cs)(hl:j<cs.length)(hrx:rb<xb)(hR:Rd wi rb (bs++rest)):mI rb xb j wi cs rest (.iface 131 (.pointer (some ⟨xb,j,none⟩))) (fun _ v=>v=str t):=by
 rcases hf with⟨h,_⟩|⟨h1,h2,rfl⟩
 ·exact absurd h.1 hne
 ·obtain⟨c,data,rfl,hP⟩:=hE.pc h2
  exact(Dk (by omega) hP hB (by simpa[Nat.blt_eq]using hl) hrx hR).imp fun u w' ⟨a,b,c,d⟩=>⟨a,⟨_,b,rfl⟩,c,d⟩
theorem BW(hf:wN 20 y t)(hE:g8 y bs)(hne:y.kind≠0)(hB:aH wi xb cs)(hl:j<cs.length)(hrx:rb<xb)(hR:Rd wi rb (bs++rest)):mI rb xb j wi cs rest (.iface 458 (.pointer (some ⟨xb,j,none⟩))) (fun _ v=>v=str t):=by
 rcases hf with⟨h,_⟩|⟨h1,h2,rfl⟩
 ·exact absurd h.1 hne
 ·obtain⟨c,data,rfl,hP⟩:=hE.pc h2
  exact(A8 h1 hP hB (by simpa[Nat.blt_eq]using hl) hrx hR).imp fun u w' ⟨a,b,c,d⟩=>⟨a,⟨_,b,rfl⟩,c,d⟩
theorem xU(hN:N0≤wi.heap.size)(hf:ye y l)(hE:g8 y bs)(hne:y.kind≠0)(hB:aH wi xb cs)(hl:j<cs.length)(hrx:rb<xb)(hR:Rd wi rb (bs++rest)):mI rb xb j wi cs rest (.iface 290 (.pointer (some ⟨xb,j,none⟩))) (gH N0 l):=by
 rcases hf with⟨h,_⟩|⟨h1,h2,rfl,h3⟩
 ·exact absurd h.1 hne
 ·obtain⟨c,data,rfl,hP⟩:=hE.pc h2
  obtain⟨hd,body,rfl,hEl,hh⟩:=hP.mapI h1
  rw[List.cons_append,List.append_assoc]at hR
  exact(wY (zJ h3) h3.2.1 h3.2.2 hEl hh hB (by simpa[Nat.blt_eq]using hl) hrx hR).imp fun u w' ⟨a,⟨m,ss,b1,b2,b3,b4⟩,c,d⟩=>⟨a,⟨_,b1,.inr ⟨m,ss,rfl,Nat.le_trans hN b2,b3,b4.k fun b h=>Nat.le_trans hN h⟩⟩,c,d⟩
end
structure tP (ks:List V) (cond desc:List UInt8) (info:List V):Prop where
 len:ks.length≤3
 f0:(bA ks 0).kind=20∧(bA ks 0).desc=[]∧(bA ks 0).text=cond
 f1:wN 19 (bA ks 1) desc
 f2:ye (bA ks 2) info
def uV(c:Nat):V:= .mk 5 c [] [] 0 []
def vR(eb:Nat):List (Value×Value):=[(.iface 458 (.pointer (some ⟨eb,0,none⟩)),.func (.func 250) #[] #[]),(.iface 131 (.pointer (some ⟨eb,1,none⟩)),.nilFunc),(.iface 290 (.pointer (some ⟨eb,2,none⟩)),.nilFunc)]
def Ga(N0:Nat)(cond desc:List UInt8)(info:List V):Nat→World→Value→Prop
 |0,_,v=>v=str cond
 |1,_,v=>v=str desc
 |_+2,w,v=>gH N0 info w v
theorem rf{ks:List V}(h:∀hj:j<ks.length,ks[j].kind=0):(bA ks j).kind=0:=by
 rcases Nat.lt_or_ge j ks.length with hj|hj
 ·rw[← bW hj];exact h hj
 ·simp[bA,hj,aX,V.kind]
theorem pR{rb eb fb:Nat}{ks:List V}{cond desc:List UInt8}{info:List V}{cu:UInt8}{du hd body r:List UInt8}{w:World}(hK:tP ks cond desc info)(hP:Pc (uV 29) cu du)(hh:di hd ks.length body)(hEn:bw ks body)(hF:aH w fb (eV (vR eb)))(hre:rb<eb)(hef:fb≠eb)(hrf:rb<fb)(hX:aH w eb [str [],str [],.map none])(hR:Rd w rb (0::((cu::du)++(hd++(body++r))))):
  ah TP 55 [.pointer (some ⟨rb,0,none⟩),.int .u8 29,.slice (some ⟨fb,0,none⟩) 3 3] w fun u w'=>u= .nilIface∧(∃vm,aH w' eb [str cond,str desc,vm]∧gH w.heap.size info w' vm)∧Rd w' rb r∧am (fun k=>k≠rb∧k≠eb) w w':=by
 have hr0:=hR.lt
 have he0:=hX.lt
 have h:=jQ (fs:=vR eb) (n:=3) (zs:=[str [],str [],.map none]) (G:=Ga w.heap.size cond desc info) rfl (by decide) (by intro p hp;simp[vR]at hp;rcases hp with rfl|rfl|rfl<;>exact⟨rfl,rfl⟩) hK.len (x:=uV 29) rfl (by decide) hP hh hEn hF hre hef hrf hX rfl
  (fun y hy h0=>by
   obtain⟨j,hj,rfl⟩:=List.mem_iff_getElem.1 hy
   have hj3:=hK.len
   rw[bW hj]at h0⊢
   match j,hj with
   |0,_=>exact hK.f0.2.1
   |1,_=>rcases hK.f1 with h|h;exact h.1.2;exact h.2.1
   |2,_=>rcases hK.f2 with h|h;exact h.1.2;exact h.2.1
   |j+3,hj=>omega)
  (fun j v w1 w2 hw hg he=>by
   match j with
   |0=>exact hg
   |1=>exact hg
   |j+2=>exact gH.m hg hr0 he0 he)
  (fun j hj hj2 wi cs bs rest hwi hB hl hz hE hne hRd=>by
   have hj3:=hK.len
   rw[bW hj]at hE hne
   match j,hj,hj2 with
   |0,_,_=>exact BW (.inr hK.f0) hE hne hB (by omega) hre hRd
   |1,_,_=>exact Ea (.inl rfl) hK.f1 hE hne hB (by omega) hre hRd
   |2,_,_=>exact xU hwi hK.f2 hE hne hB (by omega) hre hRd
   |j+3,hj,_=>omega)
  (fun j hj2 h0=>by
   have hn:=rf h0
   match j,hj2 with
   |0,_=>rw[hK.f0.1]at hn;exact absurd hn (by decide)
   |1,_=>
    refine .inl ⟨rfl,fun wi v _ hv=>?_⟩
    rcases hK.f1 with h|h
    ·have:v=str []:=by simpa using hv.symm
     show v=str desc
     rw[this,h.2]
    ·rw[h.1]at hn;exact absurd hn (by decide)
   |2,_=>
    refine .inl ⟨rfl,fun wi v _ hv=>?_⟩
    rcases hK.f2 with h|h
    ·have:v= .map none:=by simpa using hv.symm
     exact .inl ⟨h.2,this⟩
    ·rw[h.1]at hn;exact absurd hn (by decide)
   |j+3,hj=>exact absurd hj (by simp[vR]))
  hR
 refine h.imp ?_
 rintro u w' ⟨h1,⟨vs,hl,hB,hg⟩,h3,h4⟩
 match vs,hl with
 |[v0,v1,v2],_=>
  have e0:v0=str cond:=hg 0 v0 rfl
  have e1:v1=str desc:=hg 1 v1 rfl
  subst e0 e1
  exact⟨h1,⟨v2,hB,hg 2 v2 rfl⟩,h3,h4⟩
theorem yc{rb eb:Nat}{ks:List V}{cond desc:List UInt8}{info:List V}{cu:UInt8}{du hd body r:List UInt8}{w:World}(hK:tP ks cond desc info)(hP:Pc (uV 29) cu du)(hh:di hd ks.length body)(hEn:bw ks body)(hre:rb<eb)(hX:aH w eb [str [],str [],.map none])(hR:Rd w rb (0::((cu::du)++(hd++(body++r))))):
  ah TP 226 [.pointer (some ⟨eb,0,none⟩),.pointer (some ⟨rb,0,none⟩)] w fun u w'=>u= .nilIface∧(∃vm,aH w' eb [str cond,str desc,vm]∧gH w.heap.size info w' vm)∧Rd w' rb r∧am (fun k=>k≠rb∧k≠eb) w w':=by
 have:=hR.lt
 have:=hX.lt
 refine aR Tryz.func226 ?_
 have he:am (fun k=>k≠rb∧k≠eb) w w:=am.refl w
 refine q ?_
 refine WC.regionD (tt [0,1,2,3,4,5,6,7,8,9,10,11,12,13,14,15]++ff [16,17]++tt [18]) (am (fun k=>k≠rb∧k≠eb) _) mixed (by kernel_rfl) Vd<|q ?_
 refine He (fun _ hS=>az (cs:=[_,_]) Fo.h rfl rfl)<|q ?_
 refine He (fun _ hS=>az (cs:=[_,_]) Fo.h rfl rfl)<|q ?_
 refine He (fun _ hS=>az (cs:=[_,_]) Fo.h rfl rfl) ?_
 replace he:=he.t Xd
 have:=he.s
 refine WD.l rfl rfl (ll [_,_,_]) ?_
 rintro _ w1 ⟨rfl,hb1,e1⟩
 refine⟨(Vd.t e1),?_⟩
 refine cd rfl (pR hK hP hh hEn hb1 hre (by omega) (by omega) ((hX.m Xd).m e1) ((hR.m Xd).m e1)) ?_
 rintro v2 w2 ⟨rfl,⟨vm,hX,hG⟩,hR,e2⟩
 refine⟨((Vd.t e1).t e2),?_⟩
 refine q ?_
 replace he:=(he.t e1).t e2
 exact aw rfl ⟨rfl,⟨vm,hX,hG.low e1.s⟩,hR,he⟩
theorem Dd{rb eb:Nat}{ks:List V}{cond desc:List UInt8}{info:List V}{cu:UInt8}{du hd body r:List UInt8}{w:World}(hK:tP ks cond desc info)(hP:Pc (uV 29) cu du)(hh:di hd ks.length body)(hEn:bw ks body)(hre:rb<eb)(hX:aH w eb [str [],str [],.map none])(hR:Rd w rb (0::((cu::du)++(hd++(body++r))))):
  ah TP 83 [.pointer (some ⟨rb,0,none⟩),.iface 120 (.pointer (some ⟨eb,0,none⟩))] w fun u w'=>u= .nilIface∧(∃vm,aH w' eb [str cond,str desc,vm]∧gH w.heap.size info w' vm)∧Rd w' rb r∧am (fun k=>k≠rb∧k≠eb) w w':=by
 have:=hX.lt
 refine aR Tryz.func83 ?_
 refine q ?_
 refine Hl rfl (an hR (by decide)) fun w1 e1=>?_
 refine WL.nil<|WC.condF rfl<|WC.skip<|gq 281 rfl<|q ?_
 replace hR:=hR.m e1
 replace hX:=hX.m e1
 refine WL.l rfl (dI Fo.h Fb.h rfl rfl (yc hK hP hh hEn hre hX hR)) ?_
 rintro v2 w2 ⟨rfl,⟨vm,hX,hG⟩,hR,e2⟩
 refine q ?_
 exact aw rfl ⟨rfl,⟨vm,hX,hG.low e1.s⟩,hR,ch⟩
theorem AZ{rb xb off:Nat}{ks:List V}{cond desc:List UInt8}{info:List V}{cu:UInt8}{du hd body r:List UInt8}{w:World}{cs:List Value}(hK:tP ks cond desc info)(hP:Pc (uV 29) cu du)(hh:di hd ks.length body)(hEn:bw ks body)(hX:aH w xb cs)(ho:Nat.blt off cs.length=true)(hcs:cs[off]?=some (.pointer none))(hne:rb<xb)(hR:Rd w rb (0::((cu::du)++(hd++(body++r))))):
  ah TP 368 [.agg #[.pointer (some ⟨xb,off,none⟩)],.pointer (some ⟨rb,0,none⟩)] w fun u w'=>u= .nilIface∧(∃g vm,w.heap.size≤g∧aH w' xb (cs.set off (.pointer (some ⟨g,0,none⟩)))∧aH w' g [str cond,str desc,vm]∧gH w.heap.size info w' vm)∧Rd w' rb r∧am (fun k=>k≠rb∧k≠xb) w w':=by
 have:=hX.lt
 refine aR Tryz.func368 ?_
 have he:am (fun k=>k≠rb∧k≠xb) w w:=am.refl w
 refine q ?_
 have:=he.s
 refine Hb rfl fun w1 hb1 e1=>?_
 refine q ?_
 replace hX:=hX.m e1
 refine Hq (ao Fb.h rfl Xr (hX.get hcs))<|Hq (iB Fb.h rfl rfl)<|q ?_
 replace he:=he.t e1
 have hs2:=he.s
 have:=hb1.lt
 refine Ha fun w2 hb2 e2=>?_
 refine q ?_
 replace hX:=hX.m e2
 refine WL.l0 (ce Fo.h rfl rfl rfl hX ho) ?_
 rintro _ w3 ⟨hX,e3,hz3⟩
 replace hb1:=(hb1.m e2).m e3
 refine q ?_
 refine Hq (ao Fb.h rfl Xr (hX.get (iD ho)))<|q ?_
 replace hR:=((hR.m e1).m e2).m e3
 replace hb2:=hb2.m e3
 refine cl rfl (Dd hK hP hh hEn (by omega) hb2 hR) ?_
 rintro v4 w4 ⟨rfl,⟨vm,hb2,hG⟩,hR,e4⟩
 refine q ?_
 replace hX:=hX.m e4
 replace he:=((he.t e2).t e3).t e4
 exact aw rfl ⟨rfl,⟨_,vm,hs2,hX,hb2,hG.low (by have:=e2.s;have:=e3.s;omega)⟩,hR,he⟩
theorem A9{rb xb off:Nat}{ks:List V}{cond desc:List UInt8}{info:List V}{cu:UInt8}{du hd body r:List UInt8}{w:World}{cs:List Value}(hK:tP ks cond desc info)(hP:Pc (uV 29) cu du)(hh:di hd ks.length body)(hEn:bw ks body)(hX:aH w xb cs)(ho:Nat.blt off cs.length=true)(hcs:cs[off]?=some (.pointer none))(hne:rb<xb)(hR:Rd w rb (0::((cu::du)++(hd++(body++r))))):
  ah TP 83 [.pointer (some ⟨rb,0,none⟩),.iface 201 (.agg #[.pointer (some ⟨xb,off,none⟩)])] w fun u w'=>u= .nilIface∧(∃g vm,w.heap.size≤g∧aH w' xb (cs.set off (.pointer (some ⟨g,0,none⟩)))∧aH w' g [str cond,str desc,vm]∧gH w.heap.size info w' vm)∧Rd w' rb r∧am (fun k=>k≠rb∧k≠xb) w w':=by
 have:=hX.lt
 refine aR Tryz.func83 ?_
 refine q ?_
 refine Hl rfl (an hR (by decide)) fun w1 e1=>?_
 refine WL.nil<|WC.condF rfl<|WC.skip<|gq 281 rfl<|q ?_
 replace hR:=hR.m e1
 replace hX:=hX.m e1
 refine WL.l rfl (dI Fo.h Fb.h rfl rfl (AZ hK hP hh hEn hX ho hcs hne hR)) ?_
 rintro v2 w2 ⟨rfl,⟨g,vm,hg,hX,hB,hG⟩,hR,e2⟩
 refine q ?_
 exact aw rfl ⟨rfl,⟨g,vm,by have:=e1.s;omega,hX,hB,hG.low e1.s⟩,hR,ch⟩
theorem wQ:ah TP 78 [.pointer p] w fun u w'=>u= .iface 201 (.agg #[.pointer p])∧ay w w':=by
 refine aR Tryz.func78 ?_
 refine q ?_
 refine Hq (az (cs:=[_]) Fo.h rfl rfl)<|q ?_
 exact aw rfl ⟨rfl,ch⟩
def yd(y:V)(l:List (List UInt8×List UInt8×List V)):Prop:=(kp y∧l=[])∨∃c d i,l=[(c,d,i)]∧y.kind=21∧y.desc=[uV 29]∧tP y.kids c d i
def iX(N0:Nat)(l:List (List UInt8×List UInt8×List V))(w:World)(v:Value):Prop:=(l=[]∧v= .pointer none)∨∃c d i g vm,l=[(c,d,i)]∧v= .pointer (some ⟨g,0,none⟩)∧N0≤g∧aH w g [str c,str d,vm]∧gH N0 i w vm
theorem iX.m{l:List (List UInt8×List UInt8×List V)}(h:iX N0 l w v)(h1:rb<N0)(h2:xb<N0)(e:am (fun k=>k≠rb∧k≠xb) w w'):iX N0 l w' v:=by
 rcases h with h|⟨c,d,i,g,vm,h3,h4,h5,h6,h7⟩
 ·exact .inl h
 ·exact .inr ⟨c,d,i,g,vm,h3,h4,h5,h6.m e (by show g≠rb∧g≠xb;omega),h7.m h1 h2 e⟩
theorem iX.low{l:List (List UInt8×List UInt8×List V)}(h:iX N1 l w v)(hN:N0≤N1):iX N0 l w v:=by
 rcases h with h|⟨c,d,i,g,vm,h3,h4,h5,h6,h7⟩
 ·exact .inl h
 ·exact .inr ⟨c,d,i,g,vm,h3,h4,Nat.le_trans hN h5,h6,h7.low hN⟩
theorem BX{rb xb j:Nat}{wi:World}{cs:List Value}{y:V}{bs rest:List UInt8}{N0:Nat}{l:List (List UInt8×List UInt8×List V)}(hN:N0≤wi.heap.size)(hf:yd y l)(hE:g8 y bs)(hne:y.kind≠0)(hB:aH wi xb cs)(hl:j<cs.length)(hcs:cs[j]?=some (.pointer none))(hrx:rb<xb)(hR:Rd wi rb (bs++rest)):mI rb xb j wi cs rest (.iface 201 (.agg #[.pointer (some ⟨xb,j,none⟩)])) (iX N0 l):=by
 rcases hf with⟨h,_⟩|⟨c,d,i,rfl,h1,h2,h3⟩
 ·exact absurd h.1 hne
 ·obtain⟨cu,du,hd,body,rfl,hP,hEl,hL⟩:=hE.comp h1 h2 rfl
  have hR2:Rd wi rb (0::((cu::du)++(hd++(body++rest)))):=by simpa[List.append_assoc]using hR
  exact(A9 h3 hP hL hEl hB (by simpa[Nat.blt_eq]using hl) hcs hrx hR2).imp fun u w' ⟨a,⟨g,vm,b1,b2,b3,b4⟩,c',d'⟩=>⟨a,⟨_,b2,.inr ⟨c,d,i,g,vm,rfl,rfl,Nat.le_trans hN b1,b3,b4.low hN⟩⟩,c',d'⟩
def vP(xb:Nat):List (Value×Value):=[(.iface 201 (.agg #[.pointer (some ⟨xb,0,none⟩)]),.nilFunc)]
end Go.Proofs.LL
namespace Go.Proofs.LL
open Go Go.Proofs Go.RowKit
end Go.Proofs.LL
namespace Go.Proofs.LL
open Go Go.RowKit
def cM(A:Nat→Prop)(w:World)(n:Nat)(v:Value)(pl:List Value→Prop):Prop:=
 ∃p c cells,v= .slice p n c∧n≤c∧pl cells∧(n=0∨∃b o,p=some ⟨b,o,none⟩∧A b∧At w b o cells)
mutual
def aC(A:Nat→Prop)(w:World):V→List Value→Prop
 | .mk k n t ks o d,cs=>∃sk sd,cs=[.int .i64 k,.int .u64 (n:Int),str t,sk,.int .i64 o,sd]∧cM A w ks.length sk (ag A w ks)∧cM A w d.length sd (ag A w d)
def ag(A:Nat→Prop)(w:World):List V→List Value→Prop
 |[],cs=>cs=[]
 |x::r,cs=>∃c c',cs=c++c'∧aC A w x c∧ag A w r c'
end
section
variable {A B:Nat→Prop} {w w':World}
theorem aC.len:∀ {x:V} {cs:List Value},aC A w x cs→cs.length=6
 | .mk k n t ks o d,cs,h=>by
  rw[aC]at h
  obtain⟨sk,sd,rfl,_⟩:=h
  rfl
theorem ag.len:∀ {l:List V} {cs:List Value},ag A w l cs→cs.length=l.length * 6
 |[],cs,h=>by rw[ag]at h;simp[h]
 |x::r,cs,h=>by
  rw[ag]at h
  obtain⟨c,c',rfl,h1,h2⟩:=h
  simp[h1.len,ag.len h2,Nat.add_mul];omega
theorem At.growP(h:At w b o l)(e:am B w w')(hAB:∀b,b<w.heap.size→A b→B b)(hA:A b):At w' b o l:=by
 rcases Nat.eq_zero_or_pos l.length with h0|h0
 ·intro j hj;omega
 ·have hlt:b<w.heap.size:=by
   have h1:=h 0 h0
   rw[List.getElem?_eq_getElem h0]at h1
   exact bD h1
  exact h.m e (hAB b hlt hA)
mutual
theorem aC.m':∀ {x:V} {cs:List Value},aC A w x cs→am B w w'→(∀b,b<w.heap.size→A b→B b)→aC A w' x cs
 | .mk k n t ks o d,cs,h,e,hAB=>by
  rw[aC]at h⊢
  obtain⟨sk,sd,h1,⟨p1,c1,l1,a1,a2,a3,a4⟩,⟨p2,c2,l2,b1,b2,b3,b4⟩⟩:=h
  refine⟨sk,sd,h1,⟨p1,c1,l1,a1,a2,ag.m' a3 e hAB,?_⟩,⟨p2,c2,l2,b1,b2,ag.m' b3 e hAB,?_⟩⟩
  ·exact a4.imp id fun⟨b,o,x1,x2,x3⟩=>⟨b,o,x1,x2,x3.growP e hAB x2⟩
  ·exact b4.imp id fun⟨b,o,x1,x2,x3⟩=>⟨b,o,x1,x2,x3.growP e hAB x2⟩
theorem ag.m':∀ {l:List V} {cs:List Value},ag A w l cs→am B w w'→(∀b,b<w.heap.size→A b→B b)→ag A w' l cs
 |[],cs,h,_,_=>by rw[ag]at h⊢;exact h
 |x::r,cs,h,e,hAB=>by
  rw[ag]at h⊢
  obtain⟨c,c',h1,h2,h3⟩:=h
  exact⟨c,c',h1,aC.m' h2 e hAB,ag.m' h3 e hAB⟩
end
theorem aC.m(h:aC A w x y)(e:am B w w')(hAB:∀b,b<w.heap.size→A b→B b:=by(intro b hb1 hb2;first|exact trivial|exact hb2|((try dsimp only[Nb]at hb2⊢);omega))):aC A w' x y:=h.m' e hAB
theorem ag.m(h:ag A w x y)(e:am B w w')(hAB:∀b,b<w.heap.size→A b→B b:=by(intro b hb1 hb2;first|exact trivial|exact hb2|((try dsimp only[Nb]at hb2⊢);omega))):ag A w' x y:=h.m' e hAB
mutual
theorem aC.k:∀ {x:V} {cs:List Value},aC A w x cs→(∀b,A b→B b)→aC B w x cs
 | .mk k n t ks o d,cs,h,hAB=>by
  rw[aC]at h⊢
  obtain⟨sk,sd,h1,⟨p1,c1,l1,a1,a2,a3,a4⟩,⟨p2,c2,l2,b1,b2,b3,b4⟩⟩:=h
  refine⟨sk,sd,h1,⟨p1,c1,l1,a1,a2,ag.k a3 hAB,?_⟩,⟨p2,c2,l2,b1,b2,ag.k b3 hAB,?_⟩⟩
  ·exact a4.imp id fun⟨b,o,x1,x2,x3⟩=>⟨b,o,x1,hAB b x2,x3⟩
  ·exact b4.imp id fun⟨b,o,x1,x2,x3⟩=>⟨b,o,x1,hAB b x2,x3⟩
theorem ag.k:∀ {l:List V} {cs:List Value},ag A w l cs→(∀b,A b→B b)→ag B w l cs
 |[],cs,h,_=>by rw[ag]at h⊢;exact h
 |x::r,cs,h,hAB=>by
  rw[ag]at h⊢
  obtain⟨c,c',h1,h2,h3⟩:=h
  exact⟨c,c',h1,aC.k h2 hAB,ag.k h3 hAB⟩
end
theorem ag.append:∀ {l l':List V} {cs cs':List Value},ag A w l cs→ag A w l' cs'→ag A w (l++l') (cs++cs')
 |[],l',cs,cs',h,h'=>by
  rw[ag]at h
  subst h
  simpa using h'
 |x::r,l',cs,cs',h,h'=>by
  rw[ag]at h
  obtain⟨c,c',rfl,h1,h2⟩:=h
  rw[List.cons_append,List.append_assoc,ag]
  exact⟨c,c'++cs',rfl,h1,h2.append h'⟩
theorem ag.one(h:aC A w x c):ag A w [x] c:=by
 rw[ag]
 exact⟨c,[],by simp,h,by rw[ag]⟩
theorem ag.snoc(h:ag A w l cs)(h':aC A w x c):ag A w (l++[x]) (cs++c):=h.append (ag.one h')
theorem ag.get:∀ {l:List V} {cs:List Value} {i:Nat} (hi:i<l.length),ag A w l cs→∃pre c post,cs=pre++(c++post)∧pre.length=i * 6∧aC A w l[i] c
 |[],_,i,hi,_=>absurd hi (by simp)
 |x::r,cs,0,hi,h=>by
  rw[ag]at h
  obtain⟨c,c',rfl,h1,h2⟩:=h
  exact⟨[],c,c',rfl,rfl,h1⟩
 |x::r,cs,i+1,hi,h=>by
  rw[ag]at h
  obtain⟨c,c',rfl,h1,h2⟩:=h
  obtain⟨pre,d,post,rfl,e2,h3⟩:=ag.get (by simpa using hi) h2
  exact⟨c++pre,d,post,by simp,by simp[h1.len,e2];omega,h3⟩
theorem At.mid{pre c post:List Value}(h:At w b o (pre++(c++post))):At w b (o+pre.length) c:=by
 intro j hj
 have:=h (pre.length+j) (by simp;omega)
 rw[← Nat.add_assoc]at this
 rw[this,List.getElem?_append_right (by omega),List.getElem?_append_left (by omega)]
 congr 1
 omega
theorem aC.one:∀ {x:V} {cs:List Value},aC A w x cs→cs.all (fun v=>v.oneCell')=true
 | .mk k n t ks o d,cs,h=>by
  rw[aC]at h
  obtain⟨sk,sd,rfl,⟨p1,c1,l1,rfl,_⟩,⟨p2,c2,l2,rfl,_⟩⟩:=h
  rfl
theorem ag.oneAll:∀ {l:List V} {cs:List Value},ag A w l cs→cs.all (fun v=>v.oneCell')=true
 |[],cs,h=>by rw[ag]at h;simp[h]
 |x::r,cs,h=>by
  rw[ag]at h
  obtain⟨c,c',rfl,h1,h2⟩:=h
  rw[List.all_append,h1.one,h2.oneAll];rfl
end
def vc(k:Int)(n:Nat)(t:List UInt8):List Value:=[.int .i64 k,.int .u64 (n:Int),str t,.slice none 0 0,.int .i64 0,.slice none 0 0]
abbrev pv(k:Int)(n:Nat)(t:List UInt8):V:= .mk k n t [] 0 []
theorem cM.nil:cM A w 0 (.slice none 0 0) (ag A w []):=⟨none,0,[],rfl,Nat.le_refl _,by rw[ag],.inl rfl⟩
theorem aC.plain(k:Int)(n:Nat)(t:List UInt8):aC A w (pv k n t) (vc k n t):=by
 rw[aC]
 exact⟨_,_,rfl,cM.nil,cM.nil⟩
theorem ag.flat{α:Type}(f:α→V)(g:α→List Value)(h:∀a,aC A w (f a) (g a)):∀l:List α,ag A w (l.map f) (l.flatMap g)
 |[]=>by rw[List.map_nil,List.flatMap_nil,ag]
 |a::r=>by
  rw[List.map_cons,List.flatMap_cons,ag]
  exact⟨_,_,rfl,h a,ag.flat f g h r⟩
theorem cM.own{l:List V}(h:aT B e 6 w v n xs)(hl:l.length=n)(hv:ag A w l xs)(hA:∀b,B≤b→b<w.heap.size→A b):cM A w l.length v (ag A w l):=by
 obtain⟨p,c,h1,h2,h3⟩:=h.form
 subst hl
 refine⟨p,c,xs,h1,h2,hv,?_⟩
 rcases Nat.eq_zero_or_pos l.length with h0|h0
 ·exact .inl h0
 ·obtain⟨b,h4,h5,h6,h7⟩:=h3 h0
  exact .inr ⟨b,0,h4,hA b h5 h6,h7⟩
def mP(k:Int):Int:=if k=20 then 19 else k
mutual
inductive iV:V→V→Prop
 |scal {k n t ks o d}:k≠21→k≠22→k≠23→iV (.mk k n t ks o d) (pv (mP k) n t)
 |list {n t ks o d ls}:gj ks ls→iV (.mk 21 n t ks o d) (.mk 21 0 [] ls 0 [])
 |map {n t ks o d} {ps qs:List (V×V)}:md ks ps→qs.Perm ps→iV (.mk 22 n t ks o d) (.mk 22 0 [] (qs.flatMap fun p=>[p.1,p.2]) 0 [])
 |arr {n t ks o d kk}:iV (.mk 23 n t ks o d) (.mk 23 0 [] (ks.map fun x=>pv x.kind x.num x.text) kk [])
inductive gj:List V→List V→Prop
 |nil:gj [] []
 |cons {x y r s}:iV x y→gj r s→gj (x::r) (y::s)
inductive md:List V→List (V×V)→Prop
 |nil:md [] []
 |cons {k v r a b s}:iV k a→iV v b→md r s→md (k::v::r) ((a,b)::s)
end
theorem gj.snoc:∀ {r s:List V} {x y:V},gj r s→iV x y→gj (r++[x]) (s++[y])
 |[],_,_,_,h,h'=>by cases h;exact .cons h' .nil
 |a::r,_,_,_,h,h'=>by
  cases h with
  |cons h1 h2=>exact .cons h1 (h2.snoc h')
theorem gj.length:∀ {r s:List V},gj r s→s.length=r.length
 |[],_,h=>by cases h;rfl
 |a::r,_,h=>by
  cases h with
  |cons h1 h2=>simp[h2.length]
end Go.Proofs.LL
