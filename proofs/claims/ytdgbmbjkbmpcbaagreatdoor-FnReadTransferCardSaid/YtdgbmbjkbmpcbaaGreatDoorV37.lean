/- Contracts of functions and own laws. Conditions: those that each theorem states. -/
import Derived.Test.YtdgbmbjkbmpcbaaGreatDoorV36
set_option linter.all false
set_option autoImplicit true
set_option relaxedAutoImplicit true
set_option maxRecDepth 20000
namespace Go.Proofs.LL
open Go Go.Proofs Go.RowKit
set_option maxHeartbeats 4000000
attribute [local irreducible] ar WL WC cq WT WX
theorem AD{A:Prop}(h:A:=by
 refine Hc rfl rfl (fun hc=>aa rfl Fo.h)<|Hk rfl rfl rfl hb1 rfl<|Hc rfl rfl (fun hc=>aY (au hc) rfl)<|Hq (bU rfl rfl (fun h=>beq_iff_eq.2 h))<|jC 1 rfl<|Hc rfl rfl (fun hc=>aa rfl Fo.h)<|Hk rfl rfl rfl hb1 rfl<|Hc rfl rfl (fun hc=>BT (au hc) rfl)<|Hq (bU rfl rfl (fun h=>beq_iff_eq.2 h))<|WL.nil<|WC.cond rfl ?_ ?_
 ·intro hc1
  refine jA 4 rfl<|WC.ret ?_
  replace he:=he.t (e1.t e2)
  exact aw rfl ⟨false,rfl,fun h=>(by cases h),he⟩
 ·intro hc1
  have hq:18≤k1→k1≤20→t1≠[]:=fun a1 a2 a3=>by
   rw[decide_eq_true a1,decide_eq_true a2,decide_eq_true a3]at hc1;cases hc1
  refine WC.skip<|jA 3 rfl<|ld rfl hb1 rfl<|Hq (ak rfl rfl)<|jC 1 rfl<|Hc rfl rfl (fun hc=>aq rfl)<|Hc rfl rfl (fun hc=>ef (au hc) rfl)<|Hc rfl rfl (fun hc=>aq (au hc))<|WL.qcc rfl rfl rfl rfl (fun hc hx=>aq rfl)<|WL.qcc rfl rfl rfl rfl (fun hc hx=>aS (aU hc hx) rfl)<|Hc rfl rfl (fun hc=>cA (au hc) rfl (fun h=>by first|(simp[*];done)|(exfalso;simp at h;done)|(simp_all;done)))<|Hq (bU rfl rfl (fun h=>beq_iff_eq.2 h))<|WL.nil<|WC.cond rfl ?_ ?_
  ·intro hc2
   refine jA 4 rfl<|WC.ret ?_
   replace he:=he.t (e1.t e2)
   exact aw rfl ⟨false,rfl,fun h=>(by cases h),he⟩
  ·intro hc2
   refine WC.skip<|jA 1 rfl<|ai rfl rfl rfl<|jC 2 rfl ?_
   exact⟨(i+1,_,_),sb,sb,⟨qT hq,qi,((hE.t (e1.t e2)))⟩,(by show ks.length-(i+1)<ks.length-i;omega)⟩):A:=h
theorem AE{A:Prop}(h:A:=by
 replace he:=he.t e1
 refine WC.loop2 (ι:=Nat) [(2,_),(23,_),(24,_)] (fun i=>[(25,.int .i64 (i:Int))]) (fun i wi=>i≤0∧ay w1 wi) (fun i=>0-i) 0 sb sb (⟨Nat.le_refl _,ay.refl _⟩) ?_
 intro i wi1 hh;obtain⟨ni,hE⟩:=hh
 refine jA 2 rfl<|lF rfl rfl<|WL.nil<|jA 2 rfl<|WC.exit<|jA 4 rfl<|WC.ret ?_
 replace he:=he.t hE
 exact aw rfl ⟨_,rfl,he⟩):A:=h
theorem AF{A:Prop}(h:A:=by
 refine Hq (cA rfl rfl (fun h=>beq_iff_eq.2 h))<|jC 2 rfl<|WC.ret ?_
 exact aw rfl ⟨rfl,ch⟩):A:=h
theorem AG{A:Prop}(h:A:=by
 have hl:=hL.len
 have hc:=hat 0 (by omega)
 rw[List.getElem?_eq_getElem (by omega)]at hc
 exact bD hc):A:=h
theorem AH{A:Prop}(h:A:=by
 exact cO rfl hb2 bR ⟨_,rfl,by rw[aC];exact⟨_,_,rfl,cM.nil,hD⟩,he.k fun b hb _=>hb⟩):A:=h
structure i7 (A:Nat→Prop) (w0 w:World):Prop where
 evo:am A w0 w
theorem i7.m(h:i7 A w0 w)(e:am B w w')(hAB:∀b,b<w0.heap.size→A b→B b:=by(intro b hb1 hb2;first|exact trivial|exact hb2|((try dsimp only[Nb]at hb2⊢);omega))):i7 A w0 w':=⟨h.evo.t e hAB⟩
def Et(N:Nat)(w:World)(p:Option Addr)(n:Nat)(cells:List Value):Prop:=n=0∨∃b o,p=some ⟨b,o,none⟩∧b<N∧At w b o cells
theorem Et.m(h:Et N w p n cells)(e:am A w w')(hA:∀b,b<N→A b:=by(intro b hb;first|exact trivial|((try dsimp only[Nb]);omega))):Et N w' p n cells:=by
 rcases h with h|⟨b,o,h1,h2,h3⟩
 ·exact .inl h
 ·exact .inr ⟨b,o,h1,h2,h3.m e (hA b h2)⟩
theorem cM.cellsA{l:List V}(h:cM A w l.length (.slice p l.length c) (ag A w l)):∃cells,ag (fun b=>b<w.heap.size) w l cells∧Et w.heap.size w p l.length cells∧cells.length=l.length * 6∧cells.all (fun v=>v.oneCell')=true:=by
 obtain⟨p',c',cells,e,_,hL,hat⟩:=h
 injection e with e1 _ _
 subst e1
 refine⟨cells,hL.weakenW fun b hb _=>hb,?_,hL.len,hL.oneAll⟩
 rcases hat with h0|⟨b,o,rfl,_,hat⟩
 ·exact .inl h0
 ·rcases Nat.eq_zero_or_pos l.length with h0|h0
  ·exact .inl h0
  ·refine .inr ⟨b,o,rfl,?_,hat⟩
   exact AG
theorem cM.weakW{B:Nat→Prop}{l:List V}(h:cM A w l.length v (ag A w l))(hAB:∀b,b<w.heap.size→A b→B b):cM B w l.length v (ag B w l):=by
 obtain⟨p,c,cells,rfl,h2,hL,hat⟩:=h
 refine⟨p,c,cells,rfl,h2,hL.weakenW hAB,?_⟩
 rcases hat with h0|⟨b,o,rfl,hA,hat⟩
 ·exact .inl h0
 ·rcases Nat.eq_zero_or_pos l.length with h0|h0
  ·exact .inl h0
  ·refine .inr ⟨b,o,rfl,hAB b ?_ hA,hat⟩
   exact AG
theorem Src.sla(ht:x7 P tx=true)(h:Et N w p n xs)(hl:xs.length=n * 6)(h1:xs.all (fun v=>v.oneCell')=true):Src P 6 tx (.slice p n c) n xs w:=by
 rcases h with h0|⟨b,o,rfl,_,hat⟩
 ·subst h0
  have:xs=[]:=List.eq_nil_of_length_eq_zero (by simpa using hl)
  subst this
  obtain⟨e',he⟩:=lm ht
  cases p with
  |none=>exact Src.ofNil w he c
  |some a=>exact Src.ofSlice w he a 0 c [] (by simp) (by simp) (by simp)
 ·exact Src.at ht hat hl h1
theorem ag.ext(h:ag (fun b=>b<N) w l cs)(e:am A w w')(hA:∀b,b<N→A b:=by(intro b hb;first|exact trivial|((try dsimp only[Nb]);omega))):ag (fun b=>b<N) w' l cs:=h.m' e (fun b _ hb=>hA b hb)
def wZ(x:V):Prop:=∀(A:Nat→Prop) (cx:List Value) (w:World),aC A w x cx→aE x≤100000→
 ah TP 40 [.agg cx.toArray] w fun r w'=>r= .int .i64 (aE x:Int)∧ay w w'
theorem B4{k:Int}{ks:List V}{o:Int}{d:List V}(hks:∀x∈ks,wZ x)(hds:∀x∈d,wZ x):wZ (.mk k n t ks o d):=by
 intro A cx w hx hv
 obtain⟨pk,ck,pd,cd,rfl,_,_,hK,hD⟩:=hx.openV
 rw[aE]at hv
 have hkl:=av ks
 have hdl:=av d
 obtain⟨xk,hLk,hSk,lk1,ok1⟩:=hK.cellsA
 obtain⟨xd,hLd,hSd,ld1,od1⟩:=hD.cellsA
 have hall:∀x∈ks++d,wZ x:=fun x hx=>(List.mem_append.1 hx).elim (hks x) (hds x)
 have hva:aj (ks++d)=aj ks+aj d:=cI _ _
 have hle:(ks++d).length=ks.length+d.length:=List.length_append
 refine aR Tryz.func40 ?_
 have he:=Hi w
 refine jA 2 rfl ?_
 have hs1:=he.s
 refine Hb rfl fun w1 hb1 e1=>?_
 have nx1:=hb1.lt
 have ns1:=e1.s
 refine jD 6 rfl ?_
 replace hLk:=hLk.m e1
 replace hLd:=hLd.m e1
 replace hSk:=hSk.m e1
 replace hSd:=hSd.m e1
 refine WC.seq<|WC.seq<|WC.regionD (tt [1,2,4,5,8]++ff [0,3,6]++tt [7]) (am (fun b=>b<w1.heap.size) _) mixed (by kernel_rfl) Vd ?_
 have nd1w1:w1.drew.heap.size=w1.heap.size:=rfl
 refine jE 1 rfl<|dl rfl hb1 rfl<|jE 1 rfl<|dl rfl hb1 rfl<|jE 1 rfl ?_
 replace he:=(he.t e1).t Xd
 have hs2:=he.s
 replace hb1:=hb1.m Xd
 have hx2b1:=hb1.lt
 refine WD.l rfl rfl (iu Fo.h) ?_
 rintro _ w2 ⟨rfl,ho2,e2⟩
 have ns2:=e2.s
 refine⟨(Vd.t e2),?_⟩
 refine WD.l rfl rfl (bz (B:=w1.heap.size) Fo.h rfl rfl ho2 (Src.sla Fb.h ((hSk.m Xd).m e2) lk1 ok1) (by have:w1.heap.size≤w2.heap.size:=e2.s;exact this) (by simp only[maxLen];omega) (by omega)) ?_
 rintro v3 w3 ⟨hO,e3⟩
 have nq1:=e1.s
 have nq2:w1.heap.size≤w2.heap.size:=e2.s
 have nq3:=e3.s
 have ns3:=e3.s
 refine⟨((Vd.t e2).t e3),?_⟩
 refine WD.l rfl rfl (bz (B:=w1.heap.size) Fo.h rfl rfl hO (Src.sla Fb.h (((hSd.m Xd).m e2).m e3) ld1 od1) (by omega) (by simp only[maxLen];omega) (by omega)) ?_
 rintro v4 w4 ⟨hO,e4⟩
 obtain⟨q4,c4,hq4,_,_⟩:=hO.form
 subst hq4
 have nq4:=e4.s
 have ns4:=e4.s
 refine⟨(((Vd.t e2).t e3).t e4),?_⟩
 refine jE 1 rfl<|WD.nil<|jA 1 rfl ?_
 replace hLk:=(((hLk.m Xd).m e2).m e3).m e4
 replace hLd:=(((hLd.m Xd).m e2).m e3).m e4
 have hX:=cM.own (A:=fun b=>b<w4.heap.size) (hO.low (by omega:(0:Nat)≤_)) (by rw[hle];omega) ((hLk.append hLd).k fun b hb=>(by omega)) (fun b _ hb=>hb)
 rw[show 0+ks.length+d.length=(ks++d).length by omega]at hX
 have hvt:∀i,aj ((ks++d).take i)≤aj (ks++d):=fun i=>by
  have:=cI ((ks++d).take i) ((ks++d).drop i)
  rw[List.take_append_drop]at this;omega
 replace hSk:=(((hSk.m Xd).m e2).m e3).m e4
 replace hSd:=(((hSd.m Xd).m e2).m e3).m e4
 replace hb1:=((hb1.m e2).m e3).m e4
 replace he:=((he.t e2).t e3).t e4
 refine WC.loop2 (ι:=Nat) [(2,_),(12,_),(13,_)] (fun i=>[(3,.int .i64 (1+(aj ((ks++d).take i):Int))),(14,.int .i64 (i:Int))]) (fun i wi=>i≤(ks++d).length∧ay w4 wi) (fun i=>(ks++d).length-i) 0 sb sb (⟨Nat.zero_le _,ay.refl _⟩) ?_
 intro i wi1 hh;obtain⟨ni,hE⟩:=hh
 rcases Nat.lt_or_ge i (ks++d).length with qi|qi
 replace hX:=hX.m hE
 ·obtain⟨b,o1,c1,rfl,_,hA1,l1,hR1⟩:=hX.kid qi
  obtain⟨x0,x1,x2,x3,x4,x5,rfl⟩:=hR1.six
  have q1c:=hR1.one
  have hta:=iG qi
  have qv1:=hvt i
  have qv2:=hvt (i+1)
  refine jA 2 rfl<|lT rfl rfl<|jD 8 rfl<|ix rfl rfl rfl<|Hq (ad Fo.h rfl Xr hA1 (hn:=rfl)) ?_
  replace he:=he.t hE
  have hs5:=he.s
  replace hb1:=hb1.m hE
  have hx5b1:=hb1.lt
  refine Ha fun w5 hb5 e5=>?_
  have nx5:=hb5.lt
  have ns5:=e5.s
  refine Ho rfl rfl hb5 fun w6 hb5 e6 hz6=>?_
  have ns6:=e6.s
  refine jD 3 rfl<|la rfl hb5 ?_
  replace hR1:=hR1.m (e5.t e6)
  refine Hl rfl (hall _ (bf qi) _ _ _ hR1 (by omega)) fun w7 e7=>?_
  have ns7:=e7.s
  refine ai rfl rfl rfl<|jD 3 rfl<|ai rfl rfl rfl<|jC 2 rfl ?_
  exact⟨i+1,sb,sb,⟨by omega,(((hE.t (e5.t e6)).t e7))⟩,by omega⟩
 ·have hin:i=(ks++d).length:=by omega
  subst hin
  refine jA 2 rfl<|lF rfl rfl<|jD 3 rfl<|WC.exit<|jA 5 rfl<|WC.ret ?_
  replace he:=he.t hE
  exact aw rfl ⟨by rw[List.take_length,hva,aE];congr 1;omega,(he.k fun b hb _=>hb)⟩
mutual
theorem B5:∀x:V,wZ x
 | .mk k n t ks o d=>B4 (Aa ks) (Aa d)
theorem Aa:∀l:List V,∀x∈l,wZ x
 |[],x,hx=>by cases hx
 |a::r,x,hx=>by
  rcases List.mem_cons.1 hx with e|hx
  ·exact e▸B5 a
  ·exact Aa r x hx
end
def yr(k:Int):Bool:=(decide (1≤k)&&decide (k≤11))||(decide (16≤k)&&decide (k≤20))
def DL(k:Int):Bool:=(((((decide (1≤k)&&decide (k≤9))||(k==16))||(k==17))||(k==19))||(k==20))
theorem xe{k:Int}(h:yr k=true):dp k:=by
 unfold yr at h;unfold dp
 simp only[Bool.or_eq_true,Bool.and_eq_true,decide_eq_true_eq]at h
 omega
theorem xA{k:Int}(h:DL k=true):dV k:=by
 unfold DL at h;unfold dV
 simp only[Bool.or_eq_true,Bool.and_eq_true,decide_eq_true_eq,beq_iff_eq]at h
 omega
theorem qo{k:Int}:ah TP 179 [.int .i64 k] w fun r w'=>r= .bool (yr k)∧ay w w':=by
 refine aR Tryz.func179 ?_
 refine jA 7 rfl<|Hq (bK rfl rfl)<|jC 1 rfl<|Hc rfl rfl (fun hc=>aq rfl)<|Hc rfl rfl (fun hc=>aY (au hc) rfl)<|Hq (bU rfl rfl (fun h=>beq_iff_eq.2 h))<|jC 1 rfl<|Hc rfl rfl (fun hc=>aq rfl)<|Hc rfl rfl (fun hc=>bK (au hc) rfl)<|Hc rfl rfl (fun hc=>aq (au hc))<|WL.qcc rfl rfl rfl rfl (fun hc hx=>aq rfl)<|WL.qcc rfl rfl rfl rfl (fun hc hx=>aY (aU hc hx) rfl)<|Hc rfl rfl (fun hc=>bU (au hc) rfl (fun h=>by first|(simp[*];done)|(exfalso;simp at h;done)|(simp_all;done))) ?_
 exact AF
theorem ik{k:Int}{z:Bool}(h:yr k=z):ah TP 179 [.int .i64 k] w fun r w'=>r= .bool z∧ay w w':=h▸qo
theorem ur{k:Int}:ah TP 181 [.int .i64 k] w fun r w'=>r= .bool (DL k)∧ay w w':=by
 refine aR Tryz.func181 ?_
 refine jA 7 rfl<|Hq (bK rfl rfl)<|jC 1 rfl<|Hc rfl rfl (fun hc=>aq rfl)<|Hc rfl rfl (fun hc=>aY (au hc) rfl)<|Hq (bU rfl rfl (fun h=>beq_iff_eq.2 h))<|jC 1 rfl<|Hc rfl rfl (fun hc=>aq rfl)<|Hc rfl rfl (fun hc=>ak (au hc) rfl)<|Hq (cA rfl rfl (fun h=>beq_iff_eq.2 h))<|jC 1 rfl<|Hc rfl rfl (fun hc=>aq rfl)<|Hc rfl rfl (fun hc=>ak (au hc) rfl)<|Hq (cA rfl rfl (fun h=>beq_iff_eq.2 h))<|jC 1 rfl<|Hc rfl rfl (fun hc=>aq rfl)<|Hc rfl rfl (fun hc=>ak (au hc) rfl)<|Hq (cA rfl rfl (fun h=>beq_iff_eq.2 h))<|jC 1 rfl<|Hc rfl rfl (fun hc=>aq rfl)<|Hc rfl rfl (fun hc=>ak (au hc) rfl) ?_
 exact AF
theorem E0{n kk:Int}(hA:At w b o [.int .i64 kk]):ah TP 92 [.int .i64 n,.slice (some ⟨b,o,none⟩) 1 c] w fun r w'=>∃z,r= .bool z∧(z=true→n=kk)∧ay w w':=by
 refine aR Tryz.func92 ?_
 refine jA 12 rfl<|WC.loop2 (ι:=Nat) [(0,_),(4,_),(7,_),(8,_)] (fun i=>[(9,.int .i64 (i:Int))]) (fun i wi=>i≤1∧ay w wi) (fun i=>1-i) 0 sb sb (⟨Nat.zero_le _,ay.refl _⟩) ?_
 intro i wi1 hh;obtain⟨ni,hE⟩:=hh
 rcases Nat.lt_or_ge i 1 with qi|qi
 ·obtain rfl:i=0:=by omega
  refine jA 2 rfl<|lT rfl rfl<|WL.nil<|jA 7 rfl<|Hq (dX Fo.h rfl rfl rfl) ?_
  replace hA:=hA.m hE
  refine Hq (ao Fb.h rfl Xr (hA.get (j:=0) rfl))<|jC 2 rfl<|jA 4 rfl<|Hq (ak rfl rfl)<|WL.nil<|WC.cond rfl ?_ ?_
  ·intro hc
   have e:kk=n:=eq_of_beq hc
   refine jA 4 rfl<|WC.ret ?_
   exact aw rfl ⟨true,rfl,fun _=>e.symm,ch⟩
  ·intro hc
   refine WC.skip<|jA 1 rfl<|ai rfl rfl rfl<|jC 2 rfl ?_
   exact⟨1,sb,sb,⟨by omega,(hE)⟩,by omega⟩
 ·refine jA 2 rfl<|lF rfl rfl<|WL.nil<|jA 2 rfl<|WC.exit<|jA 4 rfl<|WC.ret ?_
  exact aw rfl ⟨false,rfl,fun h=>(by cases h),ch⟩
theorem wP{A:Nat→Prop}{x:V}{cx:List Value}{b o c:Nat}{kk:Int}{w:World}(hx:aC A w x cx)(hv:x.kids.length≤1000)(hA:At w b o [.int .i64 kk]):
  ah TP 65 [.agg cx.toArray,.slice (some ⟨b,o,none⟩) 1 c] w fun r w'=>∃z,r= .bool z∧(z=true→∀j,2 * j<x.kids.length→(bA x.kids (2 * j)).kind=kk)∧ay w w':=by
 obtain⟨k,n,t,ks,oo,d⟩:=x
 obtain⟨pk,ck,pd,cd,rfl,_,_,hK,_⟩:=hx.openV
 simp only[V.kids]at hv⊢
 refine aR Tryz.func65 ?_
 have he:=XI w
 refine jA 2 rfl ?_
 have:=he.s
 refine Hb rfl fun w1 hb1 e1=>?_
 refine jC 2 rfl<|jA 6 rfl ?_
 replace hA:=hA.m e1
 replace hK:=hK.m e1
 replace he:=he.t e1
 refine WC.loop2 (ι:=Nat) [(1,_),(2,_),(4,_)] (fun i=>[(5,.int .i64 (2 * (i:Int)))]) (fun i wi=>(∀j,j<i→(bA ks (2 * j)).kind=kk)∧2 * i≤ks.length+1∧ay w1 wi) (fun i=>ks.length+1-2 * i) 0 sb sb (⟨fun j hj=>absurd hj (by omega),by omega,ay.refl _⟩) ?_
 intro i wi1 hh;obtain⟨qS,ni,hE⟩:=hh
 rcases Nat.lt_or_ge (2 * i) ks.length with qi|qi
 replace hK:=hK.m hE
 ·obtain⟨b1,o1,c1,rfl,_,hA1,l1,hR1⟩:=hK.kid qi
  rcases hf1:bA ks (2 * i)with⟨k1,n1,t1,ks1,oo1,d1⟩
  rw[hf1]at hR1
  obtain⟨pk1,ck1,pd1,cd1,rfl,_,_,_,_⟩:=hR1.openV
  refine jA 5 rfl ?_
  replace hb1:=hb1.m hE
  refine ld rfl hb1 rfl<|jC 1 rfl<|lT rfl rfl<|WL.nil<|jA 2 rfl<|jA 5 rfl<|ld rfl hb1 rfl<|jC 1 rfl<|Hq (bd Fo.h rfl rfl (show 2 * (i:Int)=((2 * i:Nat):Int) by omega) qi)<|jC 1 rfl<|Hq (ao Fb.h rfl Xr (hA1.get (j:=0) rfl))<|jC 1 rfl ?_
  replace hA:=hA.m hE
  refine cl rfl (E0 hA) ?_
  rintro v2 w2 ⟨z,rfl,nz,e2⟩
  refine jC 2 rfl<|WC.cond rfl ?_ ?_
  ·intro hc
   refine jA 4 rfl<|WC.ret ?_
   replace he:=(he.t hE).t e2
   exact aw rfl ⟨false,rfl,fun h=>(by cases h),he⟩
  ·intro hc
   have e:k1=kk:=nz (by simpa using hc)
   have qT:∀j,j<i+1→(bA ks (2 * j)).kind=kk:=fun j hj=>by
    rcases Nat.lt_or_ge j i with h|h
    ·exact qS j h
    ·obtain rfl:j=i:=by omega
     rw[hf1];exact e
   refine WC.skip<|jA 2 rfl<|ai rfl rfl rfl<|jC 2 rfl ?_
   exact⟨i+1,sb,sb,⟨qT,by omega,((hE.t e2))⟩,by omega⟩
 ·refine jA 5 rfl ?_
  replace hb1:=hb1.m hE
  refine ld rfl hb1 rfl<|jC 1 rfl<|lF rfl rfl<|WL.nil<|jA 1 rfl<|WC.exit<|jA 3 rfl<|ld rfl hb1 rfl<|Hq (ak rfl rfl)<|jC 2 rfl<|WC.ret ?_
  replace he:=he.t hE
  exact aw rfl ⟨_,rfl,fun _ j hj=>qS j (by omega),he⟩
def A6(x:V):Prop:=∀(A:Nat→Prop) (cx:List Value) (w:World),aC A w x cx→aE x≤100000→
 ah TP 66 [.agg cx.toArray] w fun r w'=>∃z,r= .bool z∧ay w w'
theorem B1{k:Int}{ks:List V}{o:Int}(hks:∀x∈ks,A6 x):A6 (.mk k n t ks o d):=by
 intro A cx w hx hv
 obtain⟨pk,ck,pd,cd,rfl,_,_,hK,hD⟩:=hx.openV
 rw[aE]at hv
 have hkl:=av ks
 rcases Nat.eq_zero_or_pos ks.length with h0|h0
 ·rcases Decidable.em (k=23)with hk|hk
  ·refine aR Tryz.func66 ?_
   have he:=XI w
   refine jA 2 rfl ?_
   have hs1:=he.s
   refine Hb rfl fun w1 hb1 e1=>?_
   refine jC 2 rfl<|jA 4 rfl<|ld rfl hb1 rfl<|Hq (ae (ak rfl rfl) (br (hk)))<|jC 2 rfl<|lg rfl rfl rfl hb1 rfl<|jC 1 rfl<|Hg rfl rfl (ae (aS rfl rfl) (decide_eq_false (by(omega))))<|jC 10 rfl<|jA 2 rfl<|jA 4 rfl<|ld rfl hb1 rfl<|jC 3 rfl<|jA 1 rfl ?_
   exact AE
  ·refine aR Tryz.func66 ?_
   have he:=XI w
   refine jA 2 rfl ?_
   have hs1:=he.s
   refine Hb rfl fun w1 hb1 e1=>?_
   refine jC 2 rfl<|jA 4 rfl<|ld rfl hb1 rfl<|Hq (ae (ak rfl rfl) (bk (hk)))<|jC 15 rfl<|jA 2 rfl<|jA 4 rfl<|ld rfl hb1 rfl<|jC 3 rfl<|jA 1 rfl ?_
   exact AE
 ·obtain⟨b,o1,c0,rfl,_,hA0,l0,hR0⟩:=hK.kid h0
  rcases hf0:bA ks 0 with⟨k0,n0,t0,ks0,oo0,d0⟩
  rw[hf0]at hR0
  obtain⟨pk0,ck0,pd0,cd0,rfl,_,_,_,_⟩:=hR0.openV
  refine aR Tryz.func66 ?_
  have he:=XI w
  refine jA 2 rfl ?_
  have hs1:=he.s
  refine Hb rfl fun w1 hb1 e1=>?_
  refine jC 2 rfl<|jA 4 rfl<|ld rfl hb1 rfl<|Hq (ak rfl rfl)<|jC 1 rfl<|Hc rfl rfl (fun hc=>aa rfl Fo.h)<|Hk rfl rfl rfl hb1 rfl<|Hc rfl rfl (fun hc=>fy Fo.h (au hc))<|Hc rfl rfl (fun hc=>aS (au hc) rfl)<|Hq (bU rfl rfl (fun h=>beq_iff_eq.2 h))<|jC 1 rfl<|Hc rfl rfl (fun hc=>aa rfl Fo.h)<|Hk rfl rfl rfl hb1 rfl<|Hc rfl rfl (fun hc=>bd Fo.h (au hc) rfl rfl (by first|omega|(simp;done)|(simp;omega)))<|Hc rfl rfl (fun hc=>aa (au hc) Fo.h) ?_
  replace hA0:=hA0.m e1
  refine Hc rfl rfl (fun hc=>ao Fb.h (au hc) Xr (hA0.get (j:=0) rfl))<|Hc rfl rfl (fun hc=>ak (au hc) rfl)<|Hq (bU rfl rfl (fun h=>beq_iff_eq.2 h))<|WL.nil<|WC.cond rfl ?_ ?_
  ·intro hc
   refine jA 4 rfl<|WC.ret ?_
   replace he:=he.t e1
   exact aw rfl ⟨_,rfl,he⟩
  ·intro hc
   refine WC.skip<|jA 4 rfl<|ld rfl hb1 rfl<|jC 3 rfl<|jA 1 rfl ?_
   replace hK:=hK.m e1
   replace he:=he.t e1
   refine WC.loop2 (ι:=Nat) [(2,_),(23,_),(24,_)] (fun i=>[(25,.int .i64 (i:Int))]) (fun i wi=>i≤ks.length∧ay w1 wi) (fun i=>ks.length-i) 0 sb sb (⟨Nat.zero_le _,ay.refl _⟩) ?_
   intro i wi1 hh;obtain⟨ni,hE⟩:=hh
   rcases Nat.lt_or_ge i ks.length with qi|qi
   replace hK:=hK.m hE
   ·obtain⟨c1,_,hA1,l1,hR1⟩:=hK.kidP qi
    obtain⟨x0,x1,x2,x3,x4,x5,rfl⟩:=hR1.six
    have q1c:=hR1.one
    refine jA 2 rfl<|lT rfl rfl<|WL.nil<|jA 7 rfl<|ix rfl rfl rfl<|Hq (ad Fo.h rfl Xr hA1 (hn:=rfl)) ?_
    replace he:=he.t hE
    have:=he.s
    replace hb1:=hb1.m hE
    have:=hb1.lt
    refine Ha fun w2 hb2 e2=>?_
    refine Ho rfl rfl hb2 fun w3 hb2 e3 hz3=>?_
    refine WL.nil<|jA 2 rfl<|la rfl hb2 ?_
    replace hR1:=hR1.m (e2.t e3)
    refine cl rfl (hks _ (bf qi) _ _ _ hR1 (by have:=bo (bf qi);omega)) ?_
    rintro v4 w4 ⟨z,rfl,e4⟩
    refine WL.nil<|WC.cond rfl ?_ ?_
    ·intro hc2
     refine jA 4 rfl<|WC.ret ?_
     replace he:=(he.t (e2.t e3)).t e4
     exact aw rfl ⟨_,rfl,he⟩
    ·intro hc2
     refine WC.skip<|jA 1 rfl<|ai rfl rfl rfl<|jC 2 rfl ?_
     exact⟨i+1,sb,sb,⟨qi,(((hE.t (e2.t e3)).t e4))⟩,by omega⟩
   ·refine jA 2 rfl<|lF rfl rfl<|WL.nil<|jA 2 rfl<|WC.exit<|jA 4 rfl<|WC.ret ?_
    replace he:=he.t hE
    exact aw rfl ⟨_,rfl,he⟩
mutual
theorem FA:∀x:V,A6 x
 | .mk k n t ks o d=>B1 (Ct ks)
theorem Ct:∀l:List V,∀x∈l,A6 x
 |[],x,hx=>by cases hx
 |a::r,x,hx=>by
  rcases List.mem_cons.1 hx with e|hx
  ·exact e▸FA a
  ·exact Ct r x hx
end
theorem m4{A:Nat→Prop}{k:Int}{n:Nat}{t:List UInt8}{o:Int}{d:List V}{cx:List Value}{w:World}(hx:aC A w (.mk k n t [] o d) cx):
  ah TP 182 [.agg cx.toArray] w fun r w'=>∃cs,r= .agg cs.toArray∧aC (fun b=>b<w.heap.size) w' (cX (.mk k n t [] o d)) cs∧ay w w':=by
 obtain⟨pk,ck,pd,cd,rfl,_,_,hK,hD⟩:=hx.openV
 replace hD:=hD.weakW (B:=fun b=>b<w.heap.size) (fun b hb _=>hb)
 have e0:cX (.mk k n t [] o d)= .mk (mP k) n t [] o d:=by rw[cX,kO];split<;>rfl
 rw[e0]
 rcases Decidable.em (k=20)with hk|hk
 ·have e1:mP k=19:=if_pos hk
  rw[e1]
  refine co Tryz.func182 ?_
  have he:=Hi w
  refine jA 2 rfl ?_
  have hs1:=he.s
  refine Hb rfl fun w1 hb1 e1=>?_
  have nx1:=hb1.lt
  have ns1:=e1.s
  replace he:=he.t e1
  have hs2:=he.s
  have hx2b1:=hb1.lt
  refine Ha fun w2 hb2 e2=>?_
  have nx2:=hb2.lt
  have ns2:=e2.s
  refine jD 3 rfl ?_
  replace hb1:=hb1.m e2
  refine la rfl hb1 ?_
  replace he:=he.t e2
  have hs3:=he.s
  have hx3b1:=hb1.lt
  have hx3b2:=hb2.lt
  refine Ha fun w3 hb3 e3=>?_
  have nx3:=hb3.lt
  have ns3:=e3.s
  refine Ho rfl rfl hb3 fun w4 hb3 e4 hz4=>?_
  have ns4:=e4.s
  refine jD 4 rfl<|Hp rfl rfl hb3 fun w5 hb3 e5 hz5=>?_
  have ns5:=e5.s
  refine jD 5 rfl ?_
  replace hb1:=hb1.m ((e3.t e4).t e5)
  refine ld rfl hb1 rfl<|Hq (ae (ak rfl rfl) (br (hk)))<|jD 4 rfl<|Hp rfl rfl hb3 fun w6 hb3 e6 hz6=>?_
  have ns6:=e6.s
  refine jD 5 rfl ?_
  replace hb1:=hb1.m e6
  refine ld rfl hb1 rfl<|jD 4 rfl ?_
  replace hD:=((hD.m e1).m e2).m (((e3.t e4).t e5).t e6)
  replace hb2:=hb2.m (((e3.t e4).t e5).t e6)
  replace he:=he.t (((e3.t e4).t e5).t e6)
  refine WC.loop2 (ι:=Nat) [(1,_),(2,_),(3,_),(13,_),(14,_)] (fun i=>[(15,.int .i64 (i:Int))]) (fun i wi=>i≤0∧ay w6 wi) (fun i=>0-i) 0 sb sb (⟨Nat.le_refl _,ay.refl _⟩) ?_
  intro i wi1 hh;obtain⟨ni,hE⟩:=hh
  refine jA 2 rfl<|Hq (ae (ef rfl rfl) (decide_eq_false (by(show¬(i:Int)<(([]:List V).length:Int);simp only[List.length_nil];omega))))<|jD 3 rfl<|WC.exit<|jA 2 rfl ?_
  replace hb3:=hb3.m hE
  refine la rfl hb3 ?_
  replace hb2:=hb2.m hE
  refine Ho rfl rfl hb2 fun w7 hb2 e7 hz7=>?_
  have:=e7.s
  refine WL.nil<|WC.ret ?_
  replace hD:=(hD.m hE).m e7
  replace he:=(he.t hE).t e7
  exact AH
 ·have e1:mP k=k:=if_neg hk
  rw[e1]
  refine co Tryz.func182 ?_
  have he:=Hi w
  refine jA 2 rfl ?_
  have hs1:=he.s
  refine Hb rfl fun w1 hb1 e1=>?_
  have nx1:=hb1.lt
  have ns1:=e1.s
  replace he:=he.t e1
  have hs2:=he.s
  have hx2b1:=hb1.lt
  refine Ha fun w2 hb2 e2=>?_
  have nx2:=hb2.lt
  have ns2:=e2.s
  refine jD 3 rfl ?_
  replace hb1:=hb1.m e2
  refine la rfl hb1 ?_
  replace he:=he.t e2
  have hs3:=he.s
  have hx3b1:=hb1.lt
  have hx3b2:=hb2.lt
  refine Ha fun w3 hb3 e3=>?_
  have nx3:=hb3.lt
  have ns3:=e3.s
  refine Ho rfl rfl hb3 fun w4 hb3 e4 hz4=>?_
  have ns4:=e4.s
  refine jD 4 rfl<|Hp rfl rfl hb3 fun w5 hb3 e5 hz5=>?_
  have ns5:=e5.s
  refine jD 5 rfl ?_
  replace hb1:=hb1.m ((e3.t e4).t e5)
  refine ld rfl hb1 rfl<|Hq (ae (ak rfl rfl) (bk (hk)))<|jD 3 rfl<|jA 4 rfl<|ld rfl hb1 rfl<|jD 4 rfl ?_
  replace hD:=((hD.m e1).m e2).m ((e3.t e4).t e5)
  replace hb2:=hb2.m ((e3.t e4).t e5)
  replace he:=he.t ((e3.t e4).t e5)
  refine WC.loop2 (ι:=Nat) [(1,_),(2,_),(3,_),(13,_),(14,_)] (fun i=>[(15,.int .i64 (i:Int))]) (fun i wi=>i≤0∧ay w5 wi) (fun i=>0-i) 0 sb sb (⟨Nat.le_refl _,ay.refl _⟩) ?_
  intro i wi1 hh;obtain⟨ni,hE⟩:=hh
  refine jA 2 rfl<|Hq (ae (ef rfl rfl) (decide_eq_false (by(show¬(i:Int)<(([]:List V).length:Int);simp only[List.length_nil];omega))))<|jD 3 rfl<|WC.exit<|jA 2 rfl ?_
  replace hb3:=hb3.m hE
  refine la rfl hb3 ?_
  replace hb2:=hb2.m hE
  refine Ho rfl rfl hb2 fun w6 hb2 e6 hz6=>?_
  have ns6:=e6.s
  refine WL.nil<|WC.ret ?_
  replace hD:=(hD.m hE).m e6
  replace he:=(he.t hE).t e6
  exact AH
theorem ow{ks:List V}(hK:cM A w ks.length (.slice p ks.length c) (ag A w ks))(hl:ks.length≤1000):
  ah TP 180 [.slice p ks.length c] w fun r w'=>∃z,r= .bool z∧(z=true→∀x∈ks,18≤x.kind∧x.kind≤20→x.text≠[])∧ay w w':=by
 refine aR Tryz.func180 ?_
 have he:=XI w
 refine jA 17 rfl<|WC.loop2 (ι:=(Nat×Bool×Bool)) [(2,_),(8,_),(9,_)] (fun i=>[(3,.bool i.2.1),(4,.bool i.2.2),(10,.int .i64 (i.1:Int))]) (fun i wi=>(∀j,j<i.1→18≤(bA ks j).kind∧(bA ks j).kind≤20→(bA ks j).text≠[])∧i.1≤ks.length∧ay w wi) (fun i=>ks.length-i.1) (0,false,false) sb sb (⟨fun j hj=>absurd hj (by omega),Nat.zero_le _,ay.refl _⟩) ?_
 intro i wi1 hh;obtain⟨qS,ni,hE⟩:=hh
 obtain⟨i,z1,z2⟩:=i
 dsimp only at qS ni
 rcases Nat.lt_or_ge i ks.length with qi|qi
 replace hK:=hK.m hE
 ·obtain⟨b1,o1,c1,rfl,_,hA1,l1,hR1⟩:=hK.kid qi
  rcases hf1:bA ks i with⟨k1,n1,t1,ks1,oo1,d1⟩
  rw[hf1]at hR1
  obtain⟨pk1,ck1,pd1,cd1,rfl,_,_,_,_⟩:=hR1.openV
  have qT:(18≤k1→k1≤20→t1≠[])→∀j,j<i+1→18≤(bA ks j).kind∧(bA ks j).kind≤20→(bA ks j).text≠[]:=fun hq j hj hr=>by
   rcases Nat.lt_or_ge j i with h|h
   ·exact qS j h hr
   ·obtain rfl:j=i:=by omega
    rw[hf1]at hr⊢
    exact hq hr.1 hr.2
  refine jA 2 rfl<|lT rfl rfl<|WL.nil<|jA 7 rfl<|ix rfl rfl rfl<|Hq (ad Fo.h rfl Xr hA1 (hn:=rfl)) ?_
  replace he:=he.t hE
  have:=he.s
  refine Ha fun w1 hb1 e1=>?_
  refine Ho rfl rfl hb1 fun w2 hb1 e2 hz2=>?_
  refine WL.nil<|jA 3 rfl<|ld rfl hb1 rfl<|Hq (aL Fo.h rfl)<|jC 2 rfl<|jA 4 rfl<|ld rfl hb1 rfl<|Hq (ak rfl rfl)<|jC 1 rfl<|Hc rfl rfl (fun hc=>aa rfl Fo.h)<|Hk rfl rfl rfl hb1 rfl<|Hc rfl rfl (fun hc=>ak (au hc) rfl)<|Hq (cA rfl rfl (fun h=>beq_iff_eq.2 h))<|WL.nil<|WC.cond rfl ?_ ?_
  ·intro hc
   refine jA 3 rfl<|Hc rfl rfl (fun hc=>aq rfl)<|Hc rfl rfl (fun hc=>ef (au hc) rfl)<|Hq (cA rfl rfl (fun h=>beq_iff_eq.2 h))<|jC 2 rfl<|Hc rfl rfl (fun hc=>aq rfl)<|Hc rfl rfl (fun hc=>aS (au hc) rfl)<|Hq (cA rfl rfl (fun h=>beq_iff_eq.2 h))<|jC 3 rfl<|jA 4 rfl<|ld rfl hb1 rfl<|Hq (bK rfl rfl)<|jC 1 rfl ?_
   exact AD
  ·intro hc
   refine WC.skip<|jA 4 rfl<|ld rfl hb1 rfl<|Hq (bK rfl rfl)<|jC 1 rfl ?_
   exact AD
 ·have qA:∀x∈ks,18≤x.kind∧x.kind≤20→x.text≠[]:=fun x hx=>by
   obtain⟨j,hj,rfl⟩:=iy hx
   exact qS j (by omega)
  refine jA 2 rfl<|lF rfl rfl<|WL.nil<|jA 2 rfl<|WC.exit<|jA 5 rfl<|Hc rfl rfl (fun hc=>aq rfl)<|Hq (cA rfl rfl (fun h=>beq_iff_eq.2 h))<|jC 2 rfl<|WC.ret ?_
  replace he:=he.t hE
  exact aw rfl ⟨_,rfl,fun _=>qA,he⟩
end Go.Proofs.LL
