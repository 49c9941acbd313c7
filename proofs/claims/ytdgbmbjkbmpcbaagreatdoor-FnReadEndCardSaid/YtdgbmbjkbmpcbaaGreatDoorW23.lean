/- Contracts of functions of impl, spec and laws. The data of impl.Value, its encodings, and how it lies in memory. Conditions: those that each theorem states. -/
import Derived.Test.YtdgbmbjkbmpcbaaGreatDoorW22
set_option linter.all false
set_option maxRecDepth 20000
namespace Go.Proofs.LL
open Go Go.Proofs Go.RowKit
set_option maxHeartbeats 4000000
attribute [local irreducible] RunOp WL WC WDL WT WX
def nullV:V:= .mk 0 0 [] [] 0 []
def fld(ks:List V)(j:Nat):V:=ks[j]?.getD nullV
theorem fld_get{ks:List V}{j:Nat}(h:j<ks.length):ks[j]=fld ks j:=by simp[fld,h]
def isNull(y:V):Prop:=y.kind=0∧y.desc=[]
def FTxt(k:Int)(y:V)(t:List UInt8):Prop:=(isNull y∧t=[])∨(y.kind=k∧y.desc=[]∧y.text=t)
def FNum(k:Int)(y:V)(n d:Nat):Prop:=(isNull y∧n=d)∨(y.kind=k∧y.desc=[]∧y.num=n)
def MapAsk(l:List V):Prop:=FineL l∧MapOK l∧∀x∈keysOf l,x.kind=19∨x.kind=20
def FMap(y:V)(l:List V):Prop:=(isNull y∧l=[])∨(y.kind=22∧y.desc=[]∧y.kids=l∧MapAsk l)
def FSyms(y:V)(ts:List (List UInt8)):Prop:=(isNull y∧ts=[])∨SymsOf y ts
def MapG(N0:Nat)(l:List V)(w:World)(v:Value):Prop:=
 (l=[]∧v= .map none)∨(∃m ss,v= .map (some m)∧N0≤m∧MapO w m (ss.map sKV)∧RepS (fun b=>N0≤b) w l ss)
def SymsG(N0:Nat)(ts:List (List UInt8))(w:World)(v:Value):Prop:=
 (ts=[]∧v= .slice none 0 0)∨(∃g,v= .slice (some ⟨g,0,none⟩) ts.length ts.length∧N0≤g∧Blk w g (ts.map str))
theorem MapG.mono{N0 rb xb:Nat}{l:List V}{w w':World}{v:Value}(h:MapG N0 l w v)(h1:rb<N0)(h2:xb<N0)(e:Evo (fun k=>k≠rb∧k≠xb) w w'):MapG N0 l w' v:=by
 rcases h with h|⟨m,ss,h3,h4,h5,h6⟩
 ·exact .inl h
 ·exact .inr ⟨m,ss,h3,h4,h5.mono e (by show m≠rb∧m≠xb;omega),h6.mono e (fun b _ hb=>by show b≠rb∧b≠xb;omega)⟩
theorem MapG.low{N0 N1:Nat}{l:List V}{w:World}{v:Value}(h:MapG N1 l w v)(hN:N0≤N1):MapG N0 l w v:=by
 rcases h with h|⟨m,ss,h3,h4,h5,h6⟩
 ·exact .inl h
 ·exact .inr ⟨m,ss,h3,Nat.le_trans hN h4,h5,h6.weaken fun b h=>Nat.le_trans hN h⟩
theorem SymsG.low{N0 N1:Nat}{ts:List (List UInt8)}{w:World}{v:Value}(h:SymsG N1 ts w v)(hN:N0≤N1):SymsG N0 ts w v:=by
 rcases h with h|⟨g,h3,h4,h5⟩
 ·exact .inl h
 ·exact .inr ⟨g,h3,Nat.le_trans hN h4,h5⟩
theorem SymsG.mono{N0 rb xb:Nat}{ts:List (List UInt8)}{w w':World}{v:Value}(h:SymsG N0 ts w v)(h1:rb<N0)(h2:xb<N0)(e:Evo (fun k=>k≠rb∧k≠xb) w w'):SymsG N0 ts w' v:=by
 rcases h with h|⟨g,h3,h4,h5⟩
 ·exact .inl h
 ·exact .inr ⟨g,h3,h4,h5.mono e (by show g≠rb∧g≠xb;omega)⟩
theorem Enc.pc{y:V}{bs:List UInt8}(h:Enc y bs)(hd:y.desc=[]):∃c data,bs=c::data∧Pc y c data:=by
 cases h with
 |desc h _ _=>rw[hd]at h;cases h
 |plain _ hP=>exact⟨_,_,rfl,hP⟩
theorem Pc.mapI{y:V}{c:UInt8}{data:List UInt8}(h:Pc y c data)(hk:y.kind=22):∃hd body,data=hd++body∧EncL y.kids body∧Hd 0xc1 0xd1 c hd y.kids.length body:=by
 obtain⟨k,n,t,ks,o,d⟩:=y
 simp only[V.kind]at hk
 subst hk
 cases h
 case num s hc=>simp[numC]at hc
 case map h1 h2=>exact⟨_,_,rfl,h1,h2⟩
theorem Pc.listI{y:V}{c:UInt8}{data:List UInt8}(h:Pc y c data)(hk:y.kind=21):∃hd body,c::data=hd++body∧EncL y.kids body∧LstH hd y.kids.length body:=by
 obtain⟨k,n,t,ks,o,d⟩:=y
 simp only[V.kind]at hk
 subst hk
 cases h
 case num s hc=>simp[numC]at hc
 case list0=>exact⟨[0x45],[],rfl,.nil,.inl ⟨rfl,rfl,rfl⟩⟩
 case list hd body h1 h2=>exact⟨c::hd,body,rfl,h1,h2.lst⟩
theorem Enc.comp{y z:V}{bs:List UInt8}(h:Enc y bs)(hk:y.kind=21)(hd:y.desc=[z])(hz:z.desc=[]):∃cu du hd body,bs=0::((cu::du)++(hd++body))∧Pc z cu du∧EncL y.kids body∧LstH hd y.kids.length body:=by
 cases h with
 |plain h _=>rw[hd]at h;cases h
 |desc h1 h2 h3=>
  rw[hd]at h1
  cases h1
  obtain⟨cu,du,rfl,hP⟩:=h2.pc hz
  obtain⟨hd',body,hb,hE,hL⟩:=h3.listI hk
  exact⟨cu,du,hd',body,by rw[hb],hP,hE,hL⟩
theorem readsA{l:List V}(h:MapAsk l):∀x∈l,Reads x:=readsL l h.1
abbrev Step(rb xb j:Nat)(wi:World)(cs:List Value)(rest:List UInt8)(f:Value)(G:World→Value→Prop):Prop:=
 Does TP 83 [.pointer (some ⟨rb,0,none⟩),f] wi fun u w'=>u= .nilIface∧(∃v,Blk w' xb (cs.set j v)∧G w' v)∧Rd w' rb rest∧Evo (fun k=>k≠rb∧k≠xb) wi w'
section
variable {rb xb j:Nat} {wi:World} {cs:List Value} {y:V} {bs rest:List UInt8}
theorem st_txt{t:List UInt8}{k:Int}(hk:k=19∨k=20)(hf:FTxt k y t)(hE:Enc y bs)(hne:y.kind≠0)(hB:Blk wi xb cs)(hl:j<cs.length)(hrx:rb<xb)(hR:Rd wi rb (bs++rest)):Step rb xb j wi cs rest (.iface 131 (.pointer (some ⟨xb,j,none⟩))) (fun _ v=>v=str t):=by
 rcases hf with⟨h,_⟩|⟨h1,h2,rfl⟩
 ·exact absurd h.1 hne
 ·obtain⟨c,data,rfl,hP⟩:=hE.pc h2
  exact(UM_str (by omega) hP hB (by simpa[Nat.blt_eq]using hl) hrx hR).imp fun u w' ⟨a,b,c,d⟩=>⟨a,⟨_,b,rfl⟩,c,d⟩
theorem st_cond{t:List UInt8}(hf:FTxt 20 y t)(hE:Enc y bs)(hne:y.kind≠0)(hB:Blk wi xb cs)(hl:j<cs.length)(hrx:rb<xb)(hR:Rd wi rb (bs++rest)):Step rb xb j wi cs rest (.iface 458 (.pointer (some ⟨xb,j,none⟩))) (fun _ v=>v=str t):=by
 rcases hf with⟨h,_⟩|⟨h1,h2,rfl⟩
 ·exact absurd h.1 hne
 ·obtain⟨c,data,rfl,hP⟩:=hE.pc h2
  exact(UM_cond h1 hP hB (by simpa[Nat.blt_eq]using hl) hrx hR).imp fun u w' ⟨a,b,c,d⟩=>⟨a,⟨_,b,rfl⟩,c,d⟩
theorem st_strmap{N0:Nat}{l:List V}(hN:N0≤wi.heap.size)(hf:FMap y l)(hE:Enc y bs)(hne:y.kind≠0)(hB:Blk wi xb cs)(hl:j<cs.length)(hrx:rb<xb)(hR:Rd wi rb (bs++rest)):Step rb xb j wi cs rest (.iface 290 (.pointer (some ⟨xb,j,none⟩))) (MapG N0 l):=by
 rcases hf with⟨h,_⟩|⟨h1,h2,rfl,h3⟩
 ·exact absurd h.1 hne
 ·obtain⟨c,data,rfl,hP⟩:=hE.pc h2
  obtain⟨hd,body,rfl,hEl,hh⟩:=hP.mapI h1
  rw[List.cons_append,List.append_assoc]at hR
  exact(UM_strmap (readsA h3) h3.2.1 h3.2.2 hEl hh hB (by simpa[Nat.blt_eq]using hl) hrx hR).imp fun u w' ⟨a,⟨m,ss,b1,b2,b3,b4⟩,c,d⟩=>⟨a,⟨_,b1,.inr ⟨m,ss,rfl,Nat.le_trans hN b2,b3,b4.weaken fun b h=>Nat.le_trans hN h⟩⟩,c,d⟩
end
structure ErrK (ks:List V) (cond desc:List UInt8) (info:List V):Prop where
 len:ks.length≤3
 f0:(fld ks 0).kind=20∧(fld ks 0).desc=[]∧(fld ks 0).text=cond
 f1:FTxt 19 (fld ks 1) desc
 f2:FMap (fld ks 2) info
def uV(c:Nat):V:= .mk 5 c [] [] 0 []
def errFs(eb:Nat):List (Value×Value):=[(.iface 458 (.pointer (some ⟨eb,0,none⟩)),.func (.func 250) #[] #[]),(.iface 131 (.pointer (some ⟨eb,1,none⟩)),.nilFunc),(.iface 290 (.pointer (some ⟨eb,2,none⟩)),.nilFunc)]
def errG(N0:Nat)(cond desc:List UInt8)(info:List V):Nat→World→Value→Prop
 |0,_,v=>v=str cond
 |1,_,v=>v=str desc
 |_+2,w,v=>MapG N0 info w v
theorem null_of{ks:List V}{j:Nat}(h:∀hj:j<ks.length,ks[j].kind=0):(fld ks j).kind=0:=by
 rcases Nat.lt_or_ge j ks.length with hj|hj
 ·rw[← fld_get hj];exact h hj
 ·simp[fld,hj,nullV,V.kind]
theorem Error_struct{rb eb fb:Nat}{ks:List V}{cond desc:List UInt8}{info:List V}{cu:UInt8}{du hd body r:List UInt8}{w:World}(hK:ErrK ks cond desc info)(hP:Pc (uV 29) cu du)(hh:LstH hd ks.length body)(hEn:EncL ks body)(hF:Blk w fb (fcells (errFs eb)))(hre:rb<eb)(hef:fb≠eb)(hrf:rb<fb)(hX:Blk w eb [str [],str [],.map none])(hR:Rd w rb (0::((cu::du)++(hd++(body++r))))):
  Does TP 55 [.pointer (some ⟨rb,0,none⟩),.int .u8 29,.slice (some ⟨fb,0,none⟩) 3 3] w fun u w'=>u= .nilIface∧(∃vm,Blk w' eb [str cond,str desc,vm]∧MapG w.heap.size info w' vm)∧Rd w' rb r∧Evo (fun k=>k≠rb∧k≠eb) w w':=by
 have hr0:=hR.lt
 have he0:=hX.lt
 have h:=struct_ok (fs:=errFs eb) (n:=3) (zs:=[str [],str [],.map none]) (G:=errG w.heap.size cond desc info) rfl (by decide) (by intro p hp;simp[errFs]at hp;rcases hp with rfl|rfl|rfl<;>exact⟨rfl,rfl⟩) hK.len (x:=uV 29) rfl (by decide) hP hh hEn hF hre hef hrf hX rfl
  (fun y hy h0=>by
   obtain⟨j,hj,rfl⟩:=List.mem_iff_getElem.1 hy
   have hj3:=hK.len
   rw[fld_get hj]at h0⊢
   match j,hj with
   |0,_=>exact hK.f0.2.1
   |1,_=>rcases hK.f1 with h|h;exact h.1.2;exact h.2.1
   |2,_=>rcases hK.f2 with h|h;exact h.1.2;exact h.2.1
   |j+3,hj=>omega)
  (fun j v w1 w2 hw hg he=>by
   match j with
   |0=>exact hg
   |1=>exact hg
   |j+2=>exact MapG.mono hg hr0 he0 he)
  (fun j hj hj2 wi cs bs rest hwi hB hl hz hE hne hRd=>by
   have hj3:=hK.len
   rw[fld_get hj]at hE hne
   match j,hj,hj2 with
   |0,_,_=>exact st_cond (.inr hK.f0) hE hne hB (by omega) hre hRd
   |1,_,_=>exact st_txt (.inl rfl) hK.f1 hE hne hB (by omega) hre hRd
   |2,_,_=>exact st_strmap hwi hK.f2 hE hne hB (by omega) hre hRd
   |j+3,hj,_=>omega)
  (fun j hj2 h0=>by
   have hn:=null_of h0
   match j,hj2 with
   |0,_=>rw[hK.f0.1]at hn;exact absurd hn (by decide)
   |1,_=>
    refine .inl ⟨rfl,fun wi v _ hv=>?_⟩
    rcases hK.f1 with h|h
    ·have:v=str []:=by simpa using hv.symm
     show v=str desc
     rw[this,h.2]
    ·rw[h.1]at hn;exact absurd hn (by decide)
   |2,_=>
    refine .inl ⟨rfl,fun wi v _ hv=>?_⟩
    rcases hK.f2 with h|h
    ·have:v= .map none:=by simpa using hv.symm
     exact .inl ⟨h.2,this⟩
    ·rw[h.1]at hn;exact absurd hn (by decide)
   |j+3,hj=>exact absurd hj (by simp[errFs]))
  hR
 refine h.imp ?_
 rintro u w' ⟨h1,⟨vs,hl,hB,hg⟩,h3,h4⟩
 match vs,hl with
 |[v0,v1,v2],_=>
  have e0:v0=str cond:=hg 0 v0 rfl
  have e1:v1=str desc:=hg 1 v1 rfl
  subst e0 e1
  exact⟨h1,⟨v2,hB,hg 2 v2 rfl⟩,h3,h4⟩
theorem Error_ok{rb eb:Nat}{ks:List V}{cond desc:List UInt8}{info:List V}{cu:UInt8}{du hd body r:List UInt8}{w:World}(hK:ErrK ks cond desc info)(hP:Pc (uV 29) cu du)(hh:LstH hd ks.length body)(hEn:EncL ks body)(hre:rb<eb)(hX:Blk w eb [str [],str [],.map none])(hR:Rd w rb (0::((cu::du)++(hd++(body++r))))):
  Does TP 226 [.pointer (some ⟨eb,0,none⟩),.pointer (some ⟨rb,0,none⟩)] w fun u w'=>u= .nilIface∧(∃vm,Blk w' eb [str cond,str desc,vm]∧MapG w.heap.size info w' vm)∧Rd w' rb r∧Evo (fun k=>k≠rb∧k≠eb) w w':=by
 have hr0:=hR.lt
 have he0:=hX.lt
 refine do1 Tryz.func226 ?_
 have he:Evo (fun k=>k≠rb∧k≠eb) w w:=Evo.refl w
 refine q ?_
 refine WC.regionD (tt [0,1,2,3,4,5,6,7,8,9,10,11,12,13,14,15]++ff [16,17]++tt [18]) (Evo (fun k=>k≠rb∧k≠eb) _) mixed (by kernel_rfl) (Evo.drew _) ?_
 refine q ?_
 refine WD.q rfl (fun _ hS=>r_bld (cs:=[_,_]) Fo.h rfl rfl) ?_
 refine q ?_
 refine WD.q rfl (fun _ hS=>r_bld (cs:=[_,_]) Fo.h rfl rfl) ?_
 refine q ?_
 refine WD.q rfl (fun _ hS=>r_bld (cs:=[_,_]) Fo.h rfl rfl) ?_
 replace he:=he.then (Ext.drew _)
 have hs1:=he.size
 refine WD.l rfl rfl (ll [_,_,_]) ?_
 rintro _ w1 ⟨rfl,hb1,e1⟩
 refine⟨((Evo.drew _).then e1),?_⟩
 refine cd rfl (Error_struct hK hP hh hEn hb1 hre (by omega) (by omega) ((hX.mono (Ext.drew _)).mono e1) ((hR.mono (Ext.drew _)).mono e1)) ?_
 rintro v2 w2 ⟨rfl,⟨vm,hX,hG⟩,hR,e2⟩
 refine⟨(((Evo.drew _).then e1).then e2),?_⟩
 refine q ?_
 replace he:=(he.then e1).then e2
 exact fin1 rfl ⟨rfl,⟨vm,hX,hG.low e1.size⟩,hR,he⟩
theorem UM_err{rb eb:Nat}{ks:List V}{cond desc:List UInt8}{info:List V}{cu:UInt8}{du hd body r:List UInt8}{w:World}(hK:ErrK ks cond desc info)(hP:Pc (uV 29) cu du)(hh:LstH hd ks.length body)(hEn:EncL ks body)(hre:rb<eb)(hX:Blk w eb [str [],str [],.map none])(hR:Rd w rb (0::((cu::du)++(hd++(body++r))))):
  Does TP 83 [.pointer (some ⟨rb,0,none⟩),.iface 120 (.pointer (some ⟨eb,0,none⟩))] w fun u w'=>u= .nilIface∧(∃vm,Blk w' eb [str cond,str desc,vm]∧MapG w.heap.size info w' vm)∧Rd w' rb r∧Evo (fun k=>k≠rb∧k≠eb) w w':=by
 have hr0:=hX.lt
 refine do1 Tryz.func83 ?_
 refine q ?_
 refine cl rfl (tryReadNull_no hR (by decide)) ?_
 rintro v1 w1 ⟨rfl,e1⟩
 refine WL.nil ?_
 refine WC.condF rfl ?_
 refine WC.skip ?_
 refine gq 281 rfl ?_
 refine q ?_
 replace hR:=hR.mono e1
 replace hX:=hX.mono e1
 refine WL.l rfl (l_invoke Fo.h Fb.h rfl rfl (Error_ok hK hP hh hEn hre hX hR)) ?_
 rintro v2 w2 ⟨rfl,⟨vm,hX,hG⟩,hR,e2⟩
 refine q ?_
 exact fin1 rfl ⟨rfl,⟨vm,hX,hG.low e1.size⟩,hR,ch⟩
theorem PErr_ok{rb xb off:Nat}{ks:List V}{cond desc:List UInt8}{info:List V}{cu:UInt8}{du hd body r:List UInt8}{w:World}{cs:List Value}(hK:ErrK ks cond desc info)(hP:Pc (uV 29) cu du)(hh:LstH hd ks.length body)(hEn:EncL ks body)(hX:Blk w xb cs)(ho:Nat.blt off cs.length=true)(hcs:cs[off]?=some (.pointer none))(hne:rb<xb)(hR:Rd w rb (0::((cu::du)++(hd++(body++r))))):
  Does TP 368 [.agg #[.pointer (some ⟨xb,off,none⟩)],.pointer (some ⟨rb,0,none⟩)] w fun u w'=>u= .nilIface∧(∃g vm,w.heap.size≤g∧Blk w' xb (cs.set off (.pointer (some ⟨g,0,none⟩)))∧Blk w' g [str cond,str desc,vm]∧MapG w.heap.size info w' vm)∧Rd w' rb r∧Evo (fun k=>k≠rb∧k≠xb) w w':=by
 have hr0:=hX.lt
 refine do1 Tryz.func368 ?_
 have he:Evo (fun k=>k≠rb∧k≠xb) w w:=Evo.refl w
 refine q ?_
 have hs1:=he.size
 refine bx rfl ?_
 rintro _ w1 ⟨rfl,hb1,e1⟩
 refine q ?_
 replace hX:=hX.mono e1
 refine WL.q rfl (r_load Fb.h rfl (Ext.refl _) (hX.get hcs)) ?_
 refine WL.q rfl (r_eql_ptrN Fb.h rfl rfl) ?_
 refine q ?_
 replace he:=he.then e1
 have hs2:=he.size
 have hx2b1:=hb1.lt
 refine al ?_
 rintro _ w2 ⟨rfl,hb2,e2⟩
 refine q ?_
 replace hX:=hX.mono e2
 refine WL.l0 (l_store Fo.h rfl rfl rfl hX ho) ?_
 rintro _ w3 ⟨hX,e3,hz3⟩
 replace hb1:=(hb1.mono e2).mono e3
 refine q ?_
 refine WL.q rfl (r_load Fb.h rfl (Ext.refl _) (hX.get (set_get ho))) ?_
 refine q ?_
 replace hR:=((hR.mono e1).mono e2).mono e3
 replace hb2:=hb2.mono e3
 refine cl rfl (UM_err hK hP hh hEn (by omega) hb2 hR) ?_
 rintro v4 w4 ⟨rfl,⟨vm,hb2,hG⟩,hR,e4⟩
 refine q ?_
 replace hX:=hX.mono e4
 replace he:=((he.then e2).then e3).then e4
 exact fin1 rfl ⟨rfl,⟨_,vm,hs2,hX,hb2,hG.low (by have:=e2.size;have:=e3.size;omega)⟩,hR,he⟩
theorem UM_perr{rb xb off:Nat}{ks:List V}{cond desc:List UInt8}{info:List V}{cu:UInt8}{du hd body r:List UInt8}{w:World}{cs:List Value}(hK:ErrK ks cond desc info)(hP:Pc (uV 29) cu du)(hh:LstH hd ks.length body)(hEn:EncL ks body)(hX:Blk w xb cs)(ho:Nat.blt off cs.length=true)(hcs:cs[off]?=some (.pointer none))(hne:rb<xb)(hR:Rd w rb (0::((cu::du)++(hd++(body++r))))):
  Does TP 83 [.pointer (some ⟨rb,0,none⟩),.iface 201 (.agg #[.pointer (some ⟨xb,off,none⟩)])] w fun u w'=>u= .nilIface∧(∃g vm,w.heap.size≤g∧Blk w' xb (cs.set off (.pointer (some ⟨g,0,none⟩)))∧Blk w' g [str cond,str desc,vm]∧MapG w.heap.size info w' vm)∧Rd w' rb r∧Evo (fun k=>k≠rb∧k≠xb) w w':=by
 have hr0:=hX.lt
 refine do1 Tryz.func83 ?_
 refine q ?_
 refine cl rfl (tryReadNull_no hR (by decide)) ?_
 rintro v1 w1 ⟨rfl,e1⟩
 refine WL.nil ?_
 refine WC.condF rfl ?_
 refine WC.skip ?_
 refine gq 281 rfl ?_
 refine q ?_
 replace hR:=hR.mono e1
 replace hX:=hX.mono e1
 refine WL.l rfl (l_invoke Fo.h Fb.h rfl rfl (PErr_ok hK hP hh hEn hX ho hcs hne hR)) ?_
 rintro v2 w2 ⟨rfl,⟨g,vm,hg,hX,hB,hG⟩,hR,e2⟩
 refine q ?_
 exact fin1 rfl ⟨rfl,⟨g,vm,by have:=e1.size;omega,hX,hB,hG.low e1.size⟩,hR,ch⟩
theorem NewErr_ok{p:Option Addr}{w:World}:Does TP 78 [.pointer p] w fun u w'=>u= .iface 201 (.agg #[.pointer p])∧Ext w w':=by
 refine do1 Tryz.func78 ?_
 refine q ?_
 refine WL.q rfl (r_bld (cs:=[_]) Fo.h rfl rfl) ?_
 refine q ?_
 exact fin1 rfl ⟨rfl,ch⟩
def FErr(y:V)(l:List (List UInt8×List UInt8×List V)):Prop:=(isNull y∧l=[])∨∃c d i,l=[(c,d,i)]∧y.kind=21∧y.desc=[uV 29]∧ErrK y.kids c d i
def ErrP(N0:Nat)(l:List (List UInt8×List UInt8×List V))(w:World)(v:Value):Prop:=(l=[]∧v= .pointer none)∨∃c d i g vm,l=[(c,d,i)]∧v= .pointer (some ⟨g,0,none⟩)∧N0≤g∧Blk w g [str c,str d,vm]∧MapG N0 i w vm
theorem ErrP.mono{N0 rb xb:Nat}{l:List (List UInt8×List UInt8×List V)}{w w':World}{v:Value}(h:ErrP N0 l w v)(h1:rb<N0)(h2:xb<N0)(e:Evo (fun k=>k≠rb∧k≠xb) w w'):ErrP N0 l w' v:=by
 rcases h with h|⟨c,d,i,g,vm,h3,h4,h5,h6,h7⟩
 ·exact .inl h
 ·exact .inr ⟨c,d,i,g,vm,h3,h4,h5,h6.mono e (by show g≠rb∧g≠xb;omega),h7.mono h1 h2 e⟩
theorem ErrP.low{N0 N1:Nat}{l:List (List UInt8×List UInt8×List V)}{w:World}{v:Value}(h:ErrP N1 l w v)(hN:N0≤N1):ErrP N0 l w v:=by
 rcases h with h|⟨c,d,i,g,vm,h3,h4,h5,h6,h7⟩
 ·exact .inl h
 ·exact .inr ⟨c,d,i,g,vm,h3,h4,Nat.le_trans hN h5,h6,h7.low hN⟩
theorem st_perr{rb xb j:Nat}{wi:World}{cs:List Value}{y:V}{bs rest:List UInt8}{N0:Nat}{l:List (List UInt8×List UInt8×List V)}(hN:N0≤wi.heap.size)(hf:FErr y l)(hE:Enc y bs)(hne:y.kind≠0)(hB:Blk wi xb cs)(hl:j<cs.length)(hcs:cs[j]?=some (.pointer none))(hrx:rb<xb)(hR:Rd wi rb (bs++rest)):Step rb xb j wi cs rest (.iface 201 (.agg #[.pointer (some ⟨xb,j,none⟩)])) (ErrP N0 l):=by
 rcases hf with⟨h,_⟩|⟨c,d,i,rfl,h1,h2,h3⟩
 ·exact absurd h.1 hne
 ·obtain⟨cu,du,hd,body,rfl,hP,hEl,hL⟩:=hE.comp h1 h2 rfl
  have hR2:Rd wi rb (0::((cu::du)++(hd++(body++rest)))):=by simpa[List.append_assoc]using hR
  exact(UM_perr h3 hP hL hEl hB (by simpa[Nat.blt_eq]using hl) hcs hrx hR2).imp fun u w' ⟨a,⟨g,vm,b1,b2,b3,b4⟩,c',d'⟩=>⟨a,⟨_,b2,.inr ⟨c,d,i,g,vm,rfl,rfl,Nat.le_trans hN b1,b3,b4.low hN⟩⟩,c',d'⟩
def endFs(xb:Nat):List (Value×Value):=[(.iface 201 (.agg #[.pointer (some ⟨xb,0,none⟩)]),.nilFunc)]
theorem End_struct{rb xb fb:Nat}{ks:List V}{l:List (List UInt8×List UInt8×List V)}{cu:UInt8}{du hd body r:List UInt8}{w:World}(hlen:ks.length≤1)(hK:FErr (fld ks 0) l)(hP:Pc (uV 23) cu du)(hh:LstH hd ks.length body)(hEn:EncL ks body)(hF:Blk w fb (fcells (endFs xb)))(hre:rb<xb)(hef:fb≠xb)(hrf:rb<fb)(hX:Blk w xb [.pointer none])(hR:Rd w rb (0::((cu::du)++(hd++(body++r))))):
  Does TP 55 [.pointer (some ⟨rb,0,none⟩),.int .u8 23,.slice (some ⟨fb,0,none⟩) 1 1] w fun u w'=>u= .nilIface∧(∃v,Blk w' xb [v]∧ErrP w.heap.size l w' v)∧Rd w' rb r∧Evo (fun k=>k≠rb∧k≠xb) w w':=by
 have hr0:=hR.lt
 have he0:=hX.lt
 have h:=struct_ok (fs:=endFs xb) (n:=1) (zs:=[.pointer none]) (G:=fun _=>ErrP w.heap.size l) rfl (by decide) (by intro p hp;simp[endFs]at hp;rcases hp with rfl;exact⟨rfl,rfl⟩) hlen (x:=uV 23) rfl (by decide) hP hh hEn hF hre hef hrf hX rfl
  (fun y hy h0=>by
   obtain⟨j,hj,rfl⟩:=List.mem_iff_getElem.1 hy
   rw[fld_get hj]at h0⊢
   match j,hj with
   |0,_=>
    rcases hK with h|⟨c,d,i,_,h1,_⟩
    ·exact h.1.2
    ·rw[h1]at h0;exact absurd h0 (by decide)
   |j+1,hj=>omega)
  (fun j v w1 w2 hw hg he=>ErrP.mono hg hr0 he0 he)
  (fun j hj hj2 wi cs bs rest hwi hB hl hz hE hne hRd=>by
   rw[fld_get hj]at hE hne
   match j,hj,hj2 with
   |0,_,_=>exact st_perr hwi hK hE hne hB (by omega) hz hre hRd
   |j+1,hj,_=>omega)
  (fun j hj2 h0=>by
   have hn:=null_of h0
   match j,hj2 with
   |0,_=>
    refine .inl ⟨rfl,fun wi v _ hv=>?_⟩
    rcases hK with h|⟨c,d,i,_,h1,_⟩
    ·have:v= .pointer none:=by simpa using hv.symm
     exact .inl ⟨h.2,this⟩
    ·rw[h1]at hn;exact absurd hn (by decide)
   |j+1,hj=>exact absurd hj (by simp[endFs]))
  hR
 refine h.imp ?_
 rintro u w' ⟨h1,⟨vs,hl,hB,hg⟩,h3,h4⟩
 match vs,hl with
 |[v0],_=>exact⟨h1,⟨v0,hB,hg 0 v0 rfl⟩,h3,h4⟩
theorem End_ok{rb xb:Nat}{ks:List V}{l:List (List UInt8×List UInt8×List V)}{cu:UInt8}{du hd body r:List UInt8}{w:World}(hlen:ks.length≤1)(hK:FErr (fld ks 0) l)(hP:Pc (uV 23) cu du)(hh:LstH hd ks.length body)(hEn:EncL ks body)(hre:rb<xb)(hX:Blk w xb [.pointer none])(hR:Rd w rb (0::((cu::du)++(hd++(body++r))))):
  Does TP 51 [.pointer (some ⟨xb,0,none⟩),.pointer (some ⟨rb,0,none⟩)] w fun u w'=>u= .nilIface∧(∃v,Blk w' xb [v]∧ErrP w.heap.size l w' v)∧Rd w' rb r∧Evo (fun k=>k≠rb∧k≠xb) w w':=by
 have hr0:=hR.lt
 have he0:=hX.lt
 refine do1 Tryz.func51 ?_
 have he:Evo (fun k=>k≠rb∧k≠xb) w w:=Evo.refl w
 refine q ?_
 refine cl rfl (NewErr_ok) ?_
 rintro v1 w1 ⟨rfl,e1⟩
 refine WL.q rfl (r_bld (cs:=[_,_]) Fo.h rfl rfl) ?_
 replace he:=he.then e1
 have hs2:=he.size
 refine WL.l rfl (ll [_]) ?_
 rintro _ w2 ⟨rfl,hb2,e2⟩
 replace hR:=(hR.mono e1).mono e2
 replace hX:=(hX.mono e1).mono e2
 refine cl rfl (End_struct hlen hK hP hh hEn hb2 hre (by have:=e1.size;omega) (by have:=e1.size;omega) hX hR) ?_
 rintro v3 w3 ⟨rfl,⟨vm,hX,hG⟩,hR,e3⟩
 refine q ?_
 replace he:=(he.then e2).then e3
 exact fin1 rfl ⟨rfl,⟨vm,hX,hG.low (by have:=e1.size;have:=e2.size;omega)⟩,hR,he⟩
end Go.Proofs.LL
namespace Go.Proofs.LL
open Go Go.Proofs Go.RowKit
def sessEnd:List UInt8:=[115,101,115,115,105,111,110,45,101,110,100]
structure TgtK (ks:List V) (addr:List UInt8) (dur:Nat) (exp:List UInt8) (tmo dyn:Nat) (node:List V) (caps:List (List UInt8)):Prop where
 len:ks.length≤7
 f0:FTxt 19 (fld ks 0) addr
 f1:FNum 4 (fld ks 1) dur 0
 f2:(isNull (fld ks 2)∧exp=sessEnd)∨((fld ks 2).kind=20∧(fld ks 2).desc=[]∧(fld ks 2).text=exp)
 f3:FNum 4 (fld ks 3) tmo 0
 f4:FNum 1 (fld ks 4) dyn 0
 f5:FMap (fld ks 5) node
 f6:FSyms (fld ks 6) caps
 hdur:dur<4294967296
 htmo:tmo<4294967296
 hexp:isPolicy exp
def tgtFs(xb tb:Nat):List (Value×Value):=[(.iface 131 (.pointer (some ⟨xb,0,none⟩)),.nilFunc),(.iface 136 (.pointer (some ⟨xb,1,none⟩)),.nilFunc),(.iface 137 (.pointer (some ⟨xb,2,none⟩)),.func (.func 56) #[] #[.pointer (some ⟨tb,0,none⟩)]),(.iface 105 (.pointer (some ⟨xb,3,none⟩)),.nilFunc),(.iface 65 (.pointer (some ⟨xb,4,none⟩)),.nilFunc),(.iface 138 (.pointer (some ⟨xb,5,none⟩)),.nilFunc),(.iface 139 (.pointer (some ⟨xb,6,none⟩)),.nilFunc)]
def tgtG(N0:Nat)(addr:List UInt8)(dur:Nat)(exp:List UInt8)(tmo dyn:Nat)(node:List V)(caps:List (List UInt8)):Nat→World→Value→Prop
 |0,_,v=>v=str addr
 |1,_,v=>v= .int .u32 (dur:Int)
 |2,_,v=>v=str exp
 |3,_,v=>v= .int .u32 (tmo:Int)
 |4,_,v=>v= .bool (dyn !=0)
 |5,w,v=>MapG N0 node w v
 |_+6,w,v=>SymsG N0 caps w v
def tgtZ:List Value:=[str [],.int .u32 0,str [],.int .u32 0,.bool false,.map none,.slice none 0 0]
end Go.Proofs.LL
namespace Go.Proofs.LL
open Go Go.RowKit
def SlX(A:Nat→Prop)(w:World)(n:Nat)(v:Value)(pl:List Value→Prop):Prop:=
 ∃p c cells,v= .slice p n c∧n≤c∧pl cells∧(n=0∨∃b o,p=some ⟨b,o,none⟩∧A b∧At w b o cells)
mutual
def RepV(A:Nat→Prop)(w:World):V→List Value→Prop
 | .mk k n t ks o d,cs=>∃sk sd,cs=[.int .i64 k,.int .u64 (n:Int),str t,sk,.int .i64 o,sd]∧SlX A w ks.length sk (RepVL A w ks)∧SlX A w d.length sd (RepVL A w d)
def RepVL(A:Nat→Prop)(w:World):List V→List Value→Prop
 |[],cs=>cs=[]
 |x::r,cs=>∃c c',cs=c++c'∧RepV A w x c∧RepVL A w r c'
end
section
variable {A B:Nat→Prop} {w w':World}
theorem RepV.len:∀ {x:V} {cs:List Value},RepV A w x cs→cs.length=6
 | .mk k n t ks o d,cs,h=>by
  rw[RepV]at h
  obtain⟨sk,sd,rfl,_⟩:=h
  rfl
theorem RepVL.len:∀ {l:List V} {cs:List Value},RepVL A w l cs→cs.length=l.length * 6
 |[],cs,h=>by rw[RepVL]at h;simp[h]
 |x::r,cs,h=>by
  rw[RepVL]at h
  obtain⟨c,c',rfl,h1,h2⟩:=h
  simp[h1.len,RepVL.len h2,Nat.add_mul];omega
theorem At.growP{b o:Nat}{l:List Value}(h:At w b o l)(e:Evo B w w')(hAB:∀b,b<w.heap.size→A b→B b)(hA:A b):At w' b o l:=by
 rcases Nat.eq_zero_or_pos l.length with h0|h0
 ·intro j hj;omega
 ·have hlt:b<w.heap.size:=by
   have h1:=h 0 h0
   rw[List.getElem?_eq_getElem h0]at h1
   exact lt_of_cell h1
  exact h.mono e (hAB b hlt hA)
mutual
theorem RepV.mono':∀ {x:V} {cs:List Value},RepV A w x cs→Evo B w w'→(∀b,b<w.heap.size→A b→B b)→RepV A w' x cs
 | .mk k n t ks o d,cs,h,e,hAB=>by
  rw[RepV]at h⊢
  obtain⟨sk,sd,h1,⟨p1,c1,l1,a1,a2,a3,a4⟩,⟨p2,c2,l2,b1,b2,b3,b4⟩⟩:=h
  refine⟨sk,sd,h1,⟨p1,c1,l1,a1,a2,RepVL.mono' a3 e hAB,?_⟩,⟨p2,c2,l2,b1,b2,RepVL.mono' b3 e hAB,?_⟩⟩
  ·exact a4.imp id fun⟨b,o,x1,x2,x3⟩=>⟨b,o,x1,x2,x3.growP e hAB x2⟩
  ·exact b4.imp id fun⟨b,o,x1,x2,x3⟩=>⟨b,o,x1,x2,x3.growP e hAB x2⟩
theorem RepVL.mono':∀ {l:List V} {cs:List Value},RepVL A w l cs→Evo B w w'→(∀b,b<w.heap.size→A b→B b)→RepVL A w' l cs
 |[],cs,h,_,_=>by rw[RepVL]at h⊢;exact h
 |x::r,cs,h,e,hAB=>by
  rw[RepVL]at h⊢
  obtain⟨c,c',h1,h2,h3⟩:=h
  exact⟨c,c',h1,RepV.mono' h2 e hAB,RepVL.mono' h3 e hAB⟩
end
theorem RepV.mono{x:V}{y:List Value}(h:RepV A w x y)(e:Evo B w w')(hAB:∀b,b<w.heap.size→A b→B b:=by(intro b hb1 hb2;first|exact trivial|exact hb2|((try dsimp only[Nb]at hb2⊢);omega))):RepV A w' x y:=h.mono' e hAB
theorem RepVL.mono{x:List V}{y:List Value}(h:RepVL A w x y)(e:Evo B w w')(hAB:∀b,b<w.heap.size→A b→B b:=by(intro b hb1 hb2;first|exact trivial|exact hb2|((try dsimp only[Nb]at hb2⊢);omega))):RepVL A w' x y:=h.mono' e hAB
mutual
theorem RepV.weaken:∀ {x:V} {cs:List Value},RepV A w x cs→(∀b,A b→B b)→RepV B w x cs
 | .mk k n t ks o d,cs,h,hAB=>by
  rw[RepV]at h⊢
  obtain⟨sk,sd,h1,⟨p1,c1,l1,a1,a2,a3,a4⟩,⟨p2,c2,l2,b1,b2,b3,b4⟩⟩:=h
  refine⟨sk,sd,h1,⟨p1,c1,l1,a1,a2,RepVL.weaken a3 hAB,?_⟩,⟨p2,c2,l2,b1,b2,RepVL.weaken b3 hAB,?_⟩⟩
  ·exact a4.imp id fun⟨b,o,x1,x2,x3⟩=>⟨b,o,x1,hAB b x2,x3⟩
  ·exact b4.imp id fun⟨b,o,x1,x2,x3⟩=>⟨b,o,x1,hAB b x2,x3⟩
theorem RepVL.weaken:∀ {l:List V} {cs:List Value},RepVL A w l cs→(∀b,A b→B b)→RepVL B w l cs
 |[],cs,h,_=>by rw[RepVL]at h⊢;exact h
 |x::r,cs,h,hAB=>by
  rw[RepVL]at h⊢
  obtain⟨c,c',h1,h2,h3⟩:=h
  exact⟨c,c',h1,RepV.weaken h2 hAB,RepVL.weaken h3 hAB⟩
end
theorem RepVL.append:∀ {l l':List V} {cs cs':List Value},RepVL A w l cs→RepVL A w l' cs'→RepVL A w (l++l') (cs++cs')
 |[],l',cs,cs',h,h'=>by
  rw[RepVL]at h
  subst h
  simpa using h'
 |x::r,l',cs,cs',h,h'=>by
  rw[RepVL]at h
  obtain⟨c,c',rfl,h1,h2⟩:=h
  rw[List.cons_append,List.append_assoc,RepVL]
  exact⟨c,c'++cs',rfl,h1,h2.append h'⟩
theorem RepVL.one{x:V}{c:List Value}(h:RepV A w x c):RepVL A w [x] c:=by
 rw[RepVL]
 exact⟨c,[],by simp,h,by rw[RepVL]⟩
theorem RepVL.snoc{l:List V}{cs:List Value}{x:V}{c:List Value}(h:RepVL A w l cs)(h':RepV A w x c):RepVL A w (l++[x]) (cs++c):=h.append (RepVL.one h')
theorem RepVL.get:∀ {l:List V} {cs:List Value} {i:Nat} (hi:i<l.length),RepVL A w l cs→∃pre c post,cs=pre++(c++post)∧pre.length=i * 6∧RepV A w l[i] c
 |[],_,i,hi,_=>absurd hi (by simp)
 |x::r,cs,0,hi,h=>by
  rw[RepVL]at h
  obtain⟨c,c',rfl,h1,h2⟩:=h
  exact⟨[],c,c',rfl,rfl,h1⟩
 |x::r,cs,i+1,hi,h=>by
  rw[RepVL]at h
  obtain⟨c,c',rfl,h1,h2⟩:=h
  obtain⟨pre,d,post,rfl,e2,h3⟩:=RepVL.get (by simpa using hi) h2
  exact⟨c++pre,d,post,by simp,by simp[h1.len,e2];omega,h3⟩
theorem At.mid{b o:Nat}{pre c post:List Value}(h:At w b o (pre++(c++post))):At w b (o+pre.length) c:=by
 intro j hj
 have:=h (pre.length+j) (by simp;omega)
 rw[← Nat.add_assoc]at this
 rw[this,List.getElem?_append_right (by omega),List.getElem?_append_left (by omega)]
 congr 1
 omega
theorem RepV.one:∀ {x:V} {cs:List Value},RepV A w x cs→cs.all (fun v=>v.oneCell')=true
 | .mk k n t ks o d,cs,h=>by
  rw[RepV]at h
  obtain⟨sk,sd,rfl,⟨p1,c1,l1,rfl,_⟩,⟨p2,c2,l2,rfl,_⟩⟩:=h
  rfl
theorem RepVL.oneAll:∀ {l:List V} {cs:List Value},RepVL A w l cs→cs.all (fun v=>v.oneCell')=true
 |[],cs,h=>by rw[RepVL]at h;simp[h]
 |x::r,cs,h=>by
  rw[RepVL]at h
  obtain⟨c,c',rfl,h1,h2⟩:=h
  rw[List.all_append,h1.one,h2.oneAll];rfl
end
def vc(k:Int)(n:Nat)(t:List UInt8):List Value:=[.int .i64 k,.int .u64 (n:Int),str t,.slice none 0 0,.int .i64 0,.slice none 0 0]
abbrev pv(k:Int)(n:Nat)(t:List UInt8):V:= .mk k n t [] 0 []
theorem SlX.nil{A:Nat→Prop}{w:World}:SlX A w 0 (.slice none 0 0) (RepVL A w []):=⟨none,0,[],rfl,Nat.le_refl _,by rw[RepVL],.inl rfl⟩
theorem RepV.plain{A:Nat→Prop}{w:World}(k:Int)(n:Nat)(t:List UInt8):RepV A w (pv k n t) (vc k n t):=by
 rw[RepV]
 exact⟨_,_,rfl,SlX.nil,SlX.nil⟩
theorem RepVL.flat{A:Nat→Prop}{w:World}{α:Type}(f:α→V)(g:α→List Value)(h:∀a,RepV A w (f a) (g a)):∀l:List α,RepVL A w (l.map f) (l.flatMap g)
 |[]=>by rw[List.map_nil,List.flatMap_nil,RepVL]
 |a::r=>by
  rw[List.map_cons,List.flatMap_cons,RepVL]
  exact⟨_,_,rfl,h a,RepVL.flat f g h r⟩
theorem SlX.own{A:Nat→Prop}{w:World}{B e n:Nat}{v:Value}{xs:List Value}{l:List V}(h:Own B e 6 w v n xs)(hl:l.length=n)(hv:RepVL A w l xs)(hA:∀b,B≤b→b<w.heap.size→A b):SlX A w l.length v (RepVL A w l):=by
 obtain⟨p,c,h1,h2,h3⟩:=h.form
 subst hl
 refine⟨p,c,xs,h1,h2,hv,?_⟩
 rcases Nat.eq_zero_or_pos l.length with h0|h0
 ·exact .inl h0
 ·obtain⟨b,h4,h5,h6,h7⟩:=h3 h0
  exact .inr ⟨b,0,h4,hA b h5 h6,h7⟩
def rkk(k:Int):Int:=if k=20 then 19 else k
mutual
inductive Back:V→V→Prop
 |scal {k n t ks o d}:k≠21→k≠22→k≠23→Back (.mk k n t ks o d) (pv (rkk k) n t)
 |list {n t ks o d ls}:BackL ks ls→Back (.mk 21 n t ks o d) (.mk 21 0 [] ls 0 [])
 |map {n t ks o d} {ps qs:List (V×V)}:BackM ks ps→qs.Perm ps→Back (.mk 22 n t ks o d) (.mk 22 0 [] (qs.flatMap fun p=>[p.1,p.2]) 0 [])
 |arr {n t ks o d kk}:Back (.mk 23 n t ks o d) (.mk 23 0 [] (ks.map fun x=>pv x.kind x.num x.text) kk [])
inductive BackL:List V→List V→Prop
 |nil:BackL [] []
 |cons {x y r s}:Back x y→BackL r s→BackL (x::r) (y::s)
inductive BackM:List V→List (V×V)→Prop
 |nil:BackM [] []
 |cons {k v r a b s}:Back k a→Back v b→BackM r s→BackM (k::v::r) ((a,b)::s)
end
theorem BackL.snoc:∀ {r s:List V} {x y:V},BackL r s→Back x y→BackL (r++[x]) (s++[y])
 |[],_,_,_,h,h'=>by cases h;exact .cons h' .nil
 |a::r,_,_,_,h,h'=>by
  cases h with
  |cons h1 h2=>exact .cons h1 (h2.snoc h')
theorem BackL.length:∀ {r s:List V},BackL r s→s.length=r.length
 |[],_,h=>by cases h;rfl
 |a::r,_,h=>by
  cases h with
  |cons h1 h2=>simp[h2.length]
end Go.Proofs.LL
