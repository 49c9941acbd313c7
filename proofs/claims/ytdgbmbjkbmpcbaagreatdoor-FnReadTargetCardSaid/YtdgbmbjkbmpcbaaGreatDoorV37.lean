/- Own laws of frames, operations and loops, and contracts of functions of the program. Conditions: those that each theorem states. -/
import Derived.Test.YtdgbmbjkbmpcbaaGreatDoorV36
set_option linter.all false
set_option maxRecDepth 20000
namespace Go.Proofs.LL
open Go Go.Proofs Go.RowKit
set_option maxHeartbeats 4000000
attribute [local irreducible] RunOp WL WC WDL WT WX
theorem ln{A:Prop}(h:A:=by
 refine WL.qc rfl rfl rfl rfl (fun hc=>r_fieldAddr rfl Fo.h) ?_
 refine WL.qc rfl rfl rfl rfl (fun hc=>r_load Fb.h (cnd_of hc) (Ext.refl _) (hb1.get rfl)) ?_
 refine WL.qc rfl rfl rfl rfl (fun hc=>r_leq (cnd_of hc) rfl) ?_
 refine WL.q rfl (r_and rfl rfl (fun h=>beq_iff_eq.2 h)) ?_
 refine jC 1 rfl ?_
 refine WL.qc rfl rfl rfl rfl (fun hc=>r_fieldAddr rfl Fo.h) ?_
 refine WL.qc rfl rfl rfl rfl (fun hc=>r_load Fb.h (cnd_of hc) (Ext.refl _) (hb1.get rfl)) ?_
 refine WL.qc rfl rfl rfl rfl (fun hc=>r_steqE (cnd_of hc) rfl) ?_
 refine WL.q rfl (r_and rfl rfl (fun h=>beq_iff_eq.2 h)) ?_
 refine WL.nil ?_
 refine WC.cond rfl ?_ ?_
 ·intro hc1
  refine jA 4 rfl<|WC.ret ?_
  replace he:=he.then (e1.then e2)
  exact fin1 rfl ⟨false,rfl,fun h=>(by cases h),he⟩
 ·intro hc1
  have hq:18≤k1→k1≤20→t1≠[]:=fun a1 a2 a3=>by
   rw[decide_eq_true a1,decide_eq_true a2,decide_eq_true a3]at hc1;cases hc1
  refine WC.skip<|jA 3 rfl<|ld rfl hb1 rfl<|WL.q rfl (r_eql rfl rfl)<|jC 1 rfl ?_
  refine WL.qc rfl rfl rfl rfl (fun hc=>r_move rfl) ?_
  refine WL.qc rfl rfl rfl rfl (fun hc=>r_lss (cnd_of hc) rfl) ?_
  refine WL.qc rfl rfl rfl rfl (fun hc=>r_move (cnd_of hc)) ?_
  refine WL.qcc rfl rfl rfl rfl (fun hc hx=>r_move rfl) ?_
  refine WL.qcc rfl rfl rfl rfl (fun hc hx=>r_gtr (cnd_and hc hx) rfl) ?_
  refine WL.qc rfl rfl rfl rfl (fun hc=>r_or (cnd_of hc) rfl (fun h=>by first|(simp[*];done)|(exfalso;simp at h;done)|(simp_all;done))) ?_
  refine WL.q rfl (r_and rfl rfl (fun h=>beq_iff_eq.2 h)) ?_
  refine WL.nil ?_
  refine WC.cond rfl ?_ ?_
  ·intro hc2
   refine jA 4 rfl<|WC.ret ?_
   replace he:=he.then (e1.then e2)
   exact fin1 rfl ⟨false,rfl,fun h=>(by cases h),he⟩
  ·intro hc2
   refine WC.skip<|jA 1 rfl<|ai rfl rfl rfl<|jC 2 rfl ?_
   exact⟨(i+1,_,_),sb,sb,⟨qT hq,qi,((hE.then (e1.then e2)))⟩,(by show ks.length-(i+1)<ks.length-i;omega)⟩):A:=h
theorem lX{A:Prop}(h:A:=by
 replace he:=he.then e1
 refine WC.loop2 (ι:=Nat) [(2,_),(23,_),(24,_)] (fun i=>[(25,.int .i64 (i:Int))]) (fun i wi=>i≤0∧Ext w1 wi) (fun i=>0-i) 0 sb sb (⟨Nat.le_refl _,Ext.refl _⟩) ?_
 intro i wi1 hh;obtain⟨ni,hE⟩:=hh
 refine jA 2 rfl<|lF rfl rfl<|WL.nil<|jA 2 rfl<|WC.exit<|jA 4 rfl<|WC.ret ?_
 replace he:=he.then hE
 exact fin1 rfl ⟨_,rfl,he⟩):A:=h
theorem lD{A:Prop}(h:A:=by
 refine WL.q rfl (r_or rfl rfl (fun h=>beq_iff_eq.2 h)) ?_
 refine jC 2 rfl<|WC.ret ?_
 exact fin1 rfl ⟨rfl,ch⟩):A:=h
theorem lv{A:Prop}(h:A:=by
 have hl:=hL.len
 have hc:=hat 0 (by omega)
 rw[List.getElem?_eq_getElem (by omega)]at hc
 exact lt_of_cell hc):A:=h
theorem mM{A:Prop}(h:A:=by
 exact finC rfl hb2 agg_87 ⟨_,rfl,by rw[ag];exact⟨_,_,rfl,aD.nil,hD⟩,he.weaken fun b hb _=>hb⟩):A:=h
structure cq (A:Nat→Prop) (w0 w:World):Prop where
 evo:Evo A w0 w
theorem cq.mono{A B:Nat→Prop}{w0 w w':World}(h:cq A w0 w)(e:Evo B w w')(hAB:∀b,b<w0.heap.size→A b→B b:=by(intro b hb1 hb2;first|exact trivial|exact hb2|((try dsimp only[Nb]at hb2⊢);omega))):cq A w0 w':=⟨h.evo.then e hAB⟩
def qt(N:Nat)(w:World)(p:Option Addr)(n:Nat)(cells:List Value):Prop:=n=0∨∃b o,p=some ⟨b,o,none⟩∧b<N∧At w b o cells
theorem qt.mono{A:Nat→Prop}{N:Nat}{w w':World}{p:Option Addr}{n:Nat}{cells:List Value}(h:qt N w p n cells)(e:Evo A w w')(hA:∀b,b<N→A b:=by(intro b hb;first|exact trivial|((try dsimp only[Nb]);omega))):qt N w' p n cells:=by
 rcases h with h|⟨b,o,h1,h2,h3⟩
 ·exact .inl h
 ·exact .inr ⟨b,o,h1,h2,h3.mono e (hA b h2)⟩
theorem aD.cellsA{A:Nat→Prop}{w:World}{p:Option Addr}{c:Nat}{l:List V}(h:aD A w l.length (.slice p l.length c) (aa A w l)):∃cells,aa (fun b=>b<w.heap.size) w l cells∧qt w.heap.size w p l.length cells∧cells.length=l.length * 6∧cells.all (fun v=>v.oneCell')=true:=by
 obtain⟨p',c',cells,e,_,hL,hat⟩:=h
 injection e with e1 _ _
 subst e1
 refine⟨cells,hL.weakenW fun b hb _=>hb,?_,hL.len,hL.oneAll⟩
 rcases hat with h0|⟨b,o,rfl,_,hat⟩
 ·exact .inl h0
 ·rcases Nat.eq_zero_or_pos l.length with h0|h0
  ·exact .inl h0
  ·refine .inr ⟨b,o,rfl,?_,hat⟩
   exact lv
theorem aD.weakW{A B:Nat→Prop}{w:World}{v:Value}{l:List V}(h:aD A w l.length v (aa A w l))(hAB:∀b,b<w.heap.size→A b→B b):aD B w l.length v (aa B w l):=by
 obtain⟨p,c,cells,rfl,h2,hL,hat⟩:=h
 refine⟨p,c,cells,rfl,h2,hL.weakenW hAB,?_⟩
 rcases hat with h0|⟨b,o,rfl,hA,hat⟩
 ·exact .inl h0
 ·rcases Nat.eq_zero_or_pos l.length with h0|h0
  ·exact .inl h0
  ·refine .inr ⟨b,o,rfl,hAB b ?_ hA,hat⟩
   exact lv
theorem Src.sla{P:Program}{w:World}{tx:TypeId}{N n c:Nat}{p:Option Addr}{xs:List Value}(ht:slK P tx=true)(h:qt N w p n xs)(hl:xs.length=n * 6)(h1:xs.all (fun v=>v.oneCell')=true):Src P 6 tx (.slice p n c) n xs w:=by
 rcases h with h0|⟨b,o,rfl,_,hat⟩
 ·subst h0
  have:xs=[]:=List.eq_nil_of_length_eq_zero (by simpa using hl)
  subst this
  obtain⟨e',he⟩:=slK_some ht
  cases p with
  |none=>exact Src.ofNil w he c
  |some a=>exact Src.ofSlice w he a 0 c [] (by simp) (by simp) (by simp)
 ·exact Src.at ht hat hl h1
theorem aa.ext{A:Nat→Prop}{w w':World}{l:List V}{cs:List Value}{N:Nat}(h:aa (fun b=>b<N) w l cs)(e:Evo A w w')(hA:∀b,b<N→A b:=by(intro b hb;first|exact trivial|((try dsimp only[Nb]);omega))):aa (fun b=>b<N) w' l cs:=h.mono' e (fun b _ hb=>hA b hb)
def kK(x:V):Prop:=∀(A:Nat→Prop) (cx:List Value) (w:World),ag A w x cx→ah x≤100000→
 Does TP 40 [.agg cx.toArray] w fun r w'=>r= .int .i64 (ah x:Int)∧Ext w w'
theorem nK{k:Int}{n:Nat}{t:List UInt8}{ks:List V}{o:Int}{d:List V}(hks:∀x∈ks,kK x)(hds:∀x∈d,kK x):kK (.mk k n t ks o d):=by
 intro A cx w hx hv
 obtain⟨pk,ck,pd,cd,rfl,_,_,hK,hD⟩:=hx.openV
 rw[ah]at hv
 have hkl:=ae ks
 have hdl:=ae d
 obtain⟨xk,hLk,hSk,lk1,ok1⟩:=hK.cellsA
 obtain⟨xd,hLd,hSd,ld1,od1⟩:=hD.cellsA
 have hall:∀x∈ks++d,kK x:=fun x hx=>(List.mem_append.1 hx).elim (hks x) (hds x)
 have hva:ad (ks++d)=ad ks+ad d:=aA _ _
 have hle:(ks++d).length=ks.length+d.length:=List.length_append
 refine do1 Tryz.func40 ?_
 have he:Evo (fun b=>b<w.heap.size) w w:=Evo.refl w
 refine jA 2 rfl ?_
 have hs1:=he.size
 refine bx rfl ?_
 rintro _ w1 ⟨rfl,hb1,e1⟩
 have nx1:=hb1.lt
 have ns1:=e1.size
 refine jD 6 rfl ?_
 replace hLk:=hLk.mono e1
 replace hLd:=hLd.mono e1
 replace hSk:=hSk.mono e1
 replace hSd:=hSd.mono e1
 refine WC.seq<|WC.seq<|WC.regionD (tt [1,2,4,5,8]++ff [0,3,6]++tt [7]) (Evo (fun b=>b<w1.heap.size) _) mixed (by kernel_rfl) (Evo.drew _) ?_
 have nd1w1:w1.drew.heap.size=w1.heap.size:=rfl
 refine jE 1 rfl<|dl rfl hb1 rfl<|jE 1 rfl<|dl rfl hb1 rfl<|jE 1 rfl ?_
 replace he:=(he.then e1).then (Ext.drew _)
 have hs2:=he.size
 replace hb1:=hb1.mono (Ext.drew _)
 have hx2b1:=hb1.lt
 refine WD.l rfl rfl (l_lit0 Fo.h) ?_
 rintro _ w2 ⟨rfl,ho2,e2⟩
 have ns2:=e2.size
 refine⟨((Evo.drew _).then e2),?_⟩
 refine WD.l rfl rfl (l_app (B:=w1.heap.size) Fo.h rfl rfl ho2 (Src.sla Fb.h ((hSk.mono (Ext.drew _)).mono e2) lk1 ok1) (by have:w1.heap.size≤w2.heap.size:=e2.size;exact this) (by simp only[maxLen];omega) (by omega)) ?_
 rintro v3 w3 ⟨hO,e3⟩
 have nq1:=e1.size
 have nq2:w1.heap.size≤w2.heap.size:=e2.size
 have nq3:=e3.size
 have ns3:=e3.size
 refine⟨(((Evo.drew _).then e2).then e3),?_⟩
 refine WD.l rfl rfl (l_app (B:=w1.heap.size) Fo.h rfl rfl hO (Src.sla Fb.h (((hSd.mono (Ext.drew _)).mono e2).mono e3) ld1 od1) (by omega) (by simp only[maxLen];omega) (by omega)) ?_
 rintro v4 w4 ⟨hO,e4⟩
 obtain⟨q4,c4,hq4,_,_⟩:=hO.form
 subst hq4
 have nq4:=e4.size
 have ns4:=e4.size
 refine⟨((((Evo.drew _).then e2).then e3).then e4),?_⟩
 refine jE 1 rfl<|WD.nil<|jA 1 rfl ?_
 replace hLk:=(((hLk.mono (Ext.drew _)).mono e2).mono e3).mono e4
 replace hLd:=(((hLd.mono (Ext.drew _)).mono e2).mono e3).mono e4
 have hX:=aD.own (A:=fun b=>b<w4.heap.size) (hO.low (by omega:(0:Nat)≤_)) (by rw[hle];omega) ((hLk.append hLd).weaken fun b hb=>(by omega)) (fun b _ hb=>hb)
 rw[show 0+ks.length+d.length=(ks++d).length by omega]at hX
 have hvt:∀i,ad ((ks++d).take i)≤ad (ks++d):=fun i=>by
  have:=aA ((ks++d).take i) ((ks++d).drop i)
  rw[List.take_append_drop]at this;omega
 replace hSk:=(((hSk.mono (Ext.drew _)).mono e2).mono e3).mono e4
 replace hSd:=(((hSd.mono (Ext.drew _)).mono e2).mono e3).mono e4
 replace hb1:=((hb1.mono e2).mono e3).mono e4
 replace he:=((he.then e2).then e3).then e4
 refine WC.loop2 (ι:=Nat) [(2,_),(12,_),(13,_)] (fun i=>[(3,.int .i64 (1+(ad ((ks++d).take i):Int))),(14,.int .i64 (i:Int))]) (fun i wi=>i≤(ks++d).length∧Ext w4 wi) (fun i=>(ks++d).length-i) 0 sb sb (⟨Nat.zero_le _,Ext.refl _⟩) ?_
 intro i wi1 hh;obtain⟨ni,hE⟩:=hh
 rcases Nat.lt_or_ge i (ks++d).length with qi|qi
 replace hX:=hX.mono hE
 ·obtain⟨b,o1,c1,rfl,_,hA1,l1,hR1⟩:=hX.kid qi
  obtain⟨x0,x1,x2,x3,x4,x5,rfl⟩:=hR1.six
  have q1c:=hR1.one
  have hta:=ce qi
  have qv1:=hvt i
  have qv2:=hvt (i+1)
  refine jA 2 rfl<|lT rfl rfl<|jD 8 rfl<|ix rfl rfl rfl<|WL.q rfl (r_loadAgg Fo.h rfl (Ext.refl _) hA1 (hn:=rfl)) ?_
  replace he:=he.then hE
  have hs5:=he.size
  replace hb1:=hb1.mono hE
  have hx5b1:=hb1.lt
  refine al ?_
  rintro _ w5 ⟨rfl,hb5,e5⟩
  have nx5:=hb5.lt
  have ns5:=e5.size
  refine WL.l0 (lsw rfl rfl hb5) ?_
  rintro _ w6 ⟨hb5,e6,hz6⟩
  have ns6:=e6.size
  refine jD 3 rfl<|la rfl hb5 ?_
  replace hR1:=hR1.mono (e5.then e6)
  refine cl rfl (hall _ (ak qi) _ _ _ hR1 (by omega)) ?_
  rintro v7 w7 ⟨rfl,e7⟩
  have ns7:=e7.size
  refine ai rfl rfl rfl<|jD 3 rfl<|ai rfl rfl rfl<|jC 2 rfl ?_
  exact⟨i+1,sb,sb,⟨by omega,(((hE.then (e5.then e6)).then e7))⟩,by omega⟩
 ·have hin:i=(ks++d).length:=by omega
  subst hin
  refine jA 2 rfl<|lF rfl rfl<|jD 3 rfl<|WC.exit<|jA 5 rfl<|WC.ret ?_
  replace he:=he.then hE
  exact fin1 rfl ⟨by rw[List.take_length,hva,ah];congr 1;omega,(he.weaken fun b hb _=>hb)⟩
mutual
theorem ow:∀x:V,kK x
 | .mk k n t ks o d=>nK (mF ks) (mF d)
theorem mF:∀l:List V,∀x∈l,kK x
 |[],x,hx=>by cases hx
 |a::r,x,hx=>by
  rcases List.mem_cons.1 hx with e|hx
  ·exact e▸ow a
  ·exact mF r x hx
end
def kX(k:Int):Bool:=(decide (1≤k)&&decide (k≤11))||(decide (16≤k)&&decide (k≤20))
def oU(k:Int):Bool:=(((((decide (1≤k)&&decide (k≤9))||(k==16))||(k==17))||(k==19))||(k==20))
theorem kD{k:Int}(h:kX k=true):arrK k:=by
 unfold kX at h;unfold arrK
 simp only[Bool.or_eq_true,Bool.and_eq_true,decide_eq_true_eq]at h
 omega
theorem kO{k:Int}(h:oU k=true):keyK k:=by
 unfold oU at h;unfold keyK
 simp only[Bool.or_eq_true,Bool.and_eq_true,decide_eq_true_eq,beq_iff_eq]at h
 omega
theorem gy{k:Int}{w:World}:Does TP 179 [.int .i64 k] w fun r w'=>r= .bool (kX k)∧Ext w w':=by
 refine do1 Tryz.func179 ?_
 refine jA 7 rfl<|WL.q rfl (r_geq rfl rfl)<|jC 1 rfl ?_
 refine WL.qc rfl rfl rfl rfl (fun hc=>r_move rfl) ?_
 refine WL.qc rfl rfl rfl rfl (fun hc=>r_leq (cnd_of hc) rfl) ?_
 refine WL.q rfl (r_and rfl rfl (fun h=>beq_iff_eq.2 h)) ?_
 refine jC 1 rfl ?_
 refine WL.qc rfl rfl rfl rfl (fun hc=>r_move rfl) ?_
 refine WL.qc rfl rfl rfl rfl (fun hc=>r_geq (cnd_of hc) rfl) ?_
 refine WL.qc rfl rfl rfl rfl (fun hc=>r_move (cnd_of hc)) ?_
 refine WL.qcc rfl rfl rfl rfl (fun hc hx=>r_move rfl) ?_
 refine WL.qcc rfl rfl rfl rfl (fun hc hx=>r_leq (cnd_and hc hx) rfl) ?_
 refine WL.qc rfl rfl rfl rfl (fun hc=>r_and (cnd_of hc) rfl (fun h=>by first|(simp[*];done)|(exfalso;simp at h;done)|(simp_all;done))) ?_
 exact lD
theorem bW{k:Int}{w:World}{z:Bool}(h:kX k=z):Does TP 179 [.int .i64 k] w fun r w'=>r= .bool z∧Ext w w':=h▸gy
theorem jo{k:Int}{w:World}:Does TP 181 [.int .i64 k] w fun r w'=>r= .bool (oU k)∧Ext w w':=by
 refine do1 Tryz.func181 ?_
 refine jA 7 rfl<|WL.q rfl (r_geq rfl rfl)<|jC 1 rfl ?_
 refine WL.qc rfl rfl rfl rfl (fun hc=>r_move rfl) ?_
 refine WL.qc rfl rfl rfl rfl (fun hc=>r_leq (cnd_of hc) rfl) ?_
 refine WL.q rfl (r_and rfl rfl (fun h=>beq_iff_eq.2 h)) ?_
 refine jC 1 rfl ?_
 refine WL.qc rfl rfl rfl rfl (fun hc=>r_move rfl) ?_
 refine WL.qc rfl rfl rfl rfl (fun hc=>r_eql (cnd_of hc) rfl) ?_
 refine WL.q rfl (r_or rfl rfl (fun h=>beq_iff_eq.2 h)) ?_
 refine jC 1 rfl ?_
 refine WL.qc rfl rfl rfl rfl (fun hc=>r_move rfl) ?_
 refine WL.qc rfl rfl rfl rfl (fun hc=>r_eql (cnd_of hc) rfl) ?_
 refine WL.q rfl (r_or rfl rfl (fun h=>beq_iff_eq.2 h)) ?_
 refine jC 1 rfl ?_
 refine WL.qc rfl rfl rfl rfl (fun hc=>r_move rfl) ?_
 refine WL.qc rfl rfl rfl rfl (fun hc=>r_eql (cnd_of hc) rfl) ?_
 refine WL.q rfl (r_or rfl rfl (fun h=>beq_iff_eq.2 h)) ?_
 refine jC 1 rfl ?_
 refine WL.qc rfl rfl rfl rfl (fun hc=>r_move rfl) ?_
 refine WL.qc rfl rfl rfl rfl (fun hc=>r_eql (cnd_of hc) rfl) ?_
 exact lD
theorem rh{b o c:Nat}{n kk:Int}{w:World}(hA:At w b o [.int .i64 kk]):Does TP 92 [.int .i64 n,.slice (some ⟨b,o,none⟩) 1 c] w fun r w'=>∃z,r= .bool z∧(z=true→n=kk)∧Ext w w':=by
 refine do1 Tryz.func92 ?_
 refine jA 12 rfl ?_
 refine WC.loop2 (ι:=Nat) [(0,_),(4,_),(7,_),(8,_)] (fun i=>[(9,.int .i64 (i:Int))]) (fun i wi=>i≤1∧Ext w wi) (fun i=>1-i) 0 sb sb (⟨Nat.zero_le _,Ext.refl _⟩) ?_
 intro i wi1 hh;obtain⟨ni,hE⟩:=hh
 rcases Nat.lt_or_ge i 1 with qi|qi
 ·obtain rfl:i=0:=by omega
  refine jA 2 rfl<|lT rfl rfl<|WL.nil<|jA 7 rfl ?_
  refine WL.q rfl (r_idx1 Fo.h rfl rfl rfl (by first|omega|(simp;done)|(simp;omega))) ?_
  replace hA:=hA.mono hE
  refine WL.q rfl (r_load Fb.h rfl (Ext.refl _) (hA.get (j:=0) rfl)) ?_
  refine jC 2 rfl<|jA 4 rfl<|WL.q rfl (r_eql rfl rfl)<|WL.nil ?_
  refine WC.cond rfl ?_ ?_
  ·intro hc
   have e:kk=n:=eq_of_beq hc
   refine jA 4 rfl<|WC.ret ?_
   exact fin1 rfl ⟨true,rfl,fun _=>e.symm,ch⟩
  ·intro hc
   refine WC.skip<|jA 1 rfl<|ai rfl rfl rfl<|jC 2 rfl ?_
   exact⟨1,sb,sb,⟨by omega,(hE)⟩,by omega⟩
 ·refine jA 2 rfl<|lF rfl rfl<|WL.nil<|jA 2 rfl<|WC.exit<|jA 4 rfl<|WC.ret ?_
  exact fin1 rfl ⟨false,rfl,fun h=>(by cases h),ch⟩
theorem kh{A:Nat→Prop}{x:V}{cx:List Value}{b o c:Nat}{kk:Int}{w:World}(hx:ag A w x cx)(hv:x.kids.length≤1000)(hA:At w b o [.int .i64 kk]):
  Does TP 65 [.agg cx.toArray,.slice (some ⟨b,o,none⟩) 1 c] w fun r w'=>∃z,r= .bool z∧(z=true→∀j,2 * j<x.kids.length→(aq x.kids (2 * j)).kind=kk)∧Ext w w':=by
 obtain⟨k,n,t,ks,oo,d⟩:=x
 obtain⟨pk,ck,pd,cd,rfl,_,_,hK,_⟩:=hx.openV
 simp only[V.kids]at hv⊢
 refine do1 Tryz.func65 ?_
 have he:Evo (fun _=>True) w w:=Evo.refl w
 refine jA 2 rfl ?_
 have hs1:=he.size
 refine bx rfl ?_
 rintro _ w1 ⟨rfl,hb1,e1⟩
 refine jC 2 rfl<|jA 6 rfl ?_
 replace hA:=hA.mono e1
 replace hK:=hK.mono e1
 replace he:=he.then e1
 refine WC.loop2 (ι:=Nat) [(1,_),(2,_),(4,_)] (fun i=>[(5,.int .i64 (2 * (i:Int)))]) (fun i wi=>(∀j,j<i→(aq ks (2 * j)).kind=kk)∧2 * i≤ks.length+1∧Ext w1 wi) (fun i=>ks.length+1-2 * i) 0 sb sb (⟨fun j hj=>absurd hj (by omega),by omega,Ext.refl _⟩) ?_
 intro i wi1 hh;obtain⟨qS,ni,hE⟩:=hh
 rcases Nat.lt_or_ge (2 * i) ks.length with qi|qi
 replace hK:=hK.mono hE
 ·obtain⟨b1,o1,c1,rfl,_,hA1,l1,hR1⟩:=hK.kid qi
  rcases hf1:aq ks (2 * i)with⟨k1,n1,t1,ks1,oo1,d1⟩
  rw[hf1]at hR1
  obtain⟨pk1,ck1,pd1,cd1,rfl,_,_,_,_⟩:=hR1.openV
  refine jA 5 rfl ?_
  replace hb1:=hb1.mono hE
  refine ld rfl hb1 rfl<|jC 1 rfl<|lT rfl rfl<|WL.nil<|jA 2 rfl<|jA 5 rfl<|ld rfl hb1 rfl<|jC 1 rfl ?_
  refine WL.q rfl (r_idx Fo.h rfl rfl (show 2 * (i:Int)=((2 * i:Nat):Int) by omega) qi) ?_
  refine jC 1 rfl ?_
  refine WL.q rfl (r_load Fb.h rfl (Ext.refl _) (hA1.get (j:=0) rfl)) ?_
  refine jC 1 rfl ?_
  replace hA:=hA.mono hE
  refine cl rfl (rh hA) ?_
  rintro v2 w2 ⟨z,rfl,nz,e2⟩
  refine jC 2 rfl ?_
  refine WC.cond rfl ?_ ?_
  ·intro hc
   refine jA 4 rfl<|WC.ret ?_
   replace he:=(he.then hE).then e2
   exact fin1 rfl ⟨false,rfl,fun h=>(by cases h),he⟩
  ·intro hc
   have e:k1=kk:=nz (by simpa using hc)
   have qT:∀j,j<i+1→(aq ks (2 * j)).kind=kk:=fun j hj=>by
    rcases Nat.lt_or_ge j i with h|h
    ·exact qS j h
    ·obtain rfl:j=i:=by omega
     rw[hf1];exact e
   refine WC.skip<|jA 2 rfl<|ai rfl rfl rfl<|jC 2 rfl ?_
   exact⟨i+1,sb,sb,⟨qT,by omega,((hE.then e2))⟩,by omega⟩
 ·refine jA 5 rfl ?_
  replace hb1:=hb1.mono hE
  refine ld rfl hb1 rfl<|jC 1 rfl<|lF rfl rfl<|WL.nil<|jA 1 rfl<|WC.exit<|jA 3 rfl<|ld rfl hb1 rfl<|WL.q rfl (r_eql rfl rfl)<|jC 2 rfl<|WC.ret ?_
  replace he:=he.then hE
  exact fin1 rfl ⟨_,rfl,fun _ j hj=>qS j (by omega),he⟩
def nT(x:V):Prop:=∀(A:Nat→Prop) (cx:List Value) (w:World),ag A w x cx→ah x≤100000→
 Does TP 66 [.agg cx.toArray] w fun r w'=>∃z,r= .bool z∧Ext w w'
theorem ot{k:Int}{n:Nat}{t:List UInt8}{ks:List V}{o:Int}{d:List V}(hks:∀x∈ks,nT x):nT (.mk k n t ks o d):=by
 intro A cx w hx hv
 obtain⟨pk,ck,pd,cd,rfl,_,_,hK,hD⟩:=hx.openV
 rw[ah]at hv
 have hkl:=ae ks
 rcases Nat.eq_zero_or_pos ks.length with h0|h0
 ·rcases Decidable.em (k=23)with hk|hk
  ·refine do1 Tryz.func66 ?_
   have he:Evo (fun _=>True) w w:=Evo.refl w
   refine jA 2 rfl ?_
   have hs1:=he.size
   refine bx rfl ?_
   rintro _ w1 ⟨rfl,hb1,e1⟩
   refine jC 2 rfl<|jA 4 rfl<|ld rfl hb1 rfl<|WL.q rfl (r_cmp (r_eql rfl rfl) (beqT (hk)))<|jC 2 rfl<|lg rfl rfl rfl hb1 rfl<|jC 1 rfl ?_
   refine WL.qg rfl rfl rfl rfl (r_cmp (r_gtr rfl rfl) (decide_eq_false (by(omega)))) ?_
   refine jC 10 rfl<|jA 2 rfl<|jA 4 rfl<|ld rfl hb1 rfl<|jC 3 rfl<|jA 1 rfl ?_
   exact lX
  ·refine do1 Tryz.func66 ?_
   have he:Evo (fun _=>True) w w:=Evo.refl w
   refine jA 2 rfl ?_
   have hs1:=he.size
   refine bx rfl ?_
   rintro _ w1 ⟨rfl,hb1,e1⟩
   refine jC 2 rfl<|jA 4 rfl<|ld rfl hb1 rfl<|WL.q rfl (r_cmp (r_eql rfl rfl) (beqF (hk)))<|jC 15 rfl<|jA 2 rfl<|jA 4 rfl<|ld rfl hb1 rfl<|jC 3 rfl<|jA 1 rfl ?_
   exact lX
 ·obtain⟨b,o1,c0,rfl,_,hA0,l0,hR0⟩:=hK.kid h0
  rcases hf0:aq ks 0 with⟨k0,n0,t0,ks0,oo0,d0⟩
  rw[hf0]at hR0
  obtain⟨pk0,ck0,pd0,cd0,rfl,_,_,_,_⟩:=hR0.openV
  refine do1 Tryz.func66 ?_
  have he:Evo (fun _=>True) w w:=Evo.refl w
  refine jA 2 rfl ?_
  have hs1:=he.size
  refine bx rfl ?_
  rintro _ w1 ⟨rfl,hb1,e1⟩
  refine jC 2 rfl<|jA 4 rfl<|ld rfl hb1 rfl<|WL.q rfl (r_eql rfl rfl)<|jC 1 rfl ?_
  refine WL.qc rfl rfl rfl rfl (fun hc=>r_fieldAddr rfl Fo.h) ?_
  refine WL.qc rfl rfl rfl rfl (fun hc=>r_load Fb.h (cnd_of hc) (Ext.refl _) (hb1.get rfl)) ?_
  refine WL.qc rfl rfl rfl rfl (fun hc=>r_len Fo.h (cnd_of hc)) ?_
  refine WL.qc rfl rfl rfl rfl (fun hc=>r_gtr (cnd_of hc) rfl) ?_
  refine WL.q rfl (r_and rfl rfl (fun h=>beq_iff_eq.2 h)) ?_
  refine jC 1 rfl ?_
  refine WL.qc rfl rfl rfl rfl (fun hc=>r_fieldAddr rfl Fo.h) ?_
  refine WL.qc rfl rfl rfl rfl (fun hc=>r_load Fb.h (cnd_of hc) (Ext.refl _) (hb1.get rfl)) ?_
  refine WL.qc rfl rfl rfl rfl (fun hc=>r_idx Fo.h (cnd_of hc) rfl rfl (by first|omega|(simp;done)|(simp;omega))) ?_
  refine WL.qc rfl rfl rfl rfl (fun hc=>r_fieldAddr (cnd_of hc) Fo.h) ?_
  replace hA0:=hA0.mono e1
  refine WL.qc rfl rfl rfl rfl (fun hc=>r_load Fb.h (cnd_of hc) (Ext.refl _) (hA0.get (j:=0) rfl)) ?_
  refine WL.qc rfl rfl rfl rfl (fun hc=>r_eql (cnd_of hc) rfl) ?_
  refine WL.q rfl (r_and rfl rfl (fun h=>beq_iff_eq.2 h)) ?_
  refine WL.nil ?_
  refine WC.cond rfl ?_ ?_
  ·intro hc
   refine jA 4 rfl<|WC.ret ?_
   replace he:=he.then e1
   exact fin1 rfl ⟨_,rfl,he⟩
  ·intro hc
   refine WC.skip<|jA 4 rfl<|ld rfl hb1 rfl<|jC 3 rfl<|jA 1 rfl ?_
   replace hK:=hK.mono e1
   replace he:=he.then e1
   refine WC.loop2 (ι:=Nat) [(2,_),(23,_),(24,_)] (fun i=>[(25,.int .i64 (i:Int))]) (fun i wi=>i≤ks.length∧Ext w1 wi) (fun i=>ks.length-i) 0 sb sb (⟨Nat.zero_le _,Ext.refl _⟩) ?_
   intro i wi1 hh;obtain⟨ni,hE⟩:=hh
   rcases Nat.lt_or_ge i ks.length with qi|qi
   replace hK:=hK.mono hE
   ·obtain⟨c1,_,hA1,l1,hR1⟩:=hK.kidP qi
    obtain⟨x0,x1,x2,x3,x4,x5,rfl⟩:=hR1.six
    have q1c:=hR1.one
    refine jA 2 rfl<|lT rfl rfl<|WL.nil<|jA 7 rfl<|ix rfl rfl rfl<|WL.q rfl (r_loadAgg Fo.h rfl (Ext.refl _) hA1 (hn:=rfl)) ?_
    replace he:=he.then hE
    have hs2:=he.size
    replace hb1:=hb1.mono hE
    have hx2b1:=hb1.lt
    refine al ?_
    rintro _ w2 ⟨rfl,hb2,e2⟩
    refine WL.l0 (lsw rfl rfl hb2) ?_
    rintro _ w3 ⟨hb2,e3,hz3⟩
    refine WL.nil<|jA 2 rfl<|la rfl hb2 ?_
    replace hR1:=hR1.mono (e2.then e3)
    refine cl rfl (hks _ (ak qi) _ _ _ hR1 (by have:=an (ak qi);omega)) ?_
    rintro v4 w4 ⟨z,rfl,e4⟩
    refine WL.nil ?_
    refine WC.cond rfl ?_ ?_
    ·intro hc2
     refine jA 4 rfl<|WC.ret ?_
     replace he:=(he.then (e2.then e3)).then e4
     exact fin1 rfl ⟨_,rfl,he⟩
    ·intro hc2
     refine WC.skip<|jA 1 rfl<|ai rfl rfl rfl<|jC 2 rfl ?_
     exact⟨i+1,sb,sb,⟨qi,(((hE.then (e2.then e3)).then e4))⟩,by omega⟩
   ·refine jA 2 rfl<|lF rfl rfl<|WL.nil<|jA 2 rfl<|WC.exit<|jA 4 rfl<|WC.ret ?_
    replace he:=he.then hE
    exact fin1 rfl ⟨_,rfl,he⟩
mutual
theorem rC:∀x:V,nT x
 | .mk k n t ks o d=>ot (oE ks)
theorem oE:∀l:List V,∀x∈l,nT x
 |[],x,hx=>by cases hx
 |a::r,x,hx=>by
  rcases List.mem_cons.1 hx with e|hx
  ·exact e▸rC a
  ·exact oE r x hx
end
theorem eX{A:Nat→Prop}{k:Int}{n:Nat}{t:List UInt8}{o:Int}{d:List V}{cx:List Value}{w:World}(hx:ag A w (.mk k n t [] o d) cx):
  Does TP 182 [.agg cx.toArray] w fun r w'=>∃cs,r= .agg cs.toArray∧ag (fun b=>b<w.heap.size) w' (aG (.mk k n t [] o d)) cs∧Ext w w':=by
 obtain⟨pk,ck,pd,cd,rfl,_,_,hK,hD⟩:=hx.openV
 replace hD:=hD.weakW (B:=fun b=>b<w.heap.size) (fun b hb _=>hb)
 have e0:aG (.mk k n t [] o d)= .mk (eH k) n t [] o d:=by rw[aG,dB];split<;>rfl
 rw[e0]
 rcases Decidable.em (k=20)with hk|hk
 ·have e1:eH k=19:=if_pos hk
  rw[e1]
  refine doR Tryz.func182 ?_
  have he:Evo (fun b=>b<w.heap.size) w w:=Evo.refl w
  refine jA 2 rfl ?_
  have hs1:=he.size
  refine bx rfl ?_
  rintro _ w1 ⟨rfl,hb1,e1⟩
  have nx1:=hb1.lt
  have ns1:=e1.size
  replace he:=he.then e1
  have hs2:=he.size
  have hx2b1:=hb1.lt
  refine al ?_
  rintro _ w2 ⟨rfl,hb2,e2⟩
  have nx2:=hb2.lt
  have ns2:=e2.size
  refine jD 3 rfl ?_
  replace hb1:=hb1.mono e2
  refine la rfl hb1 ?_
  replace he:=he.then e2
  have hs3:=he.size
  have hx3b1:=hb1.lt
  have hx3b2:=hb2.lt
  refine al ?_
  rintro _ w3 ⟨rfl,hb3,e3⟩
  have nx3:=hb3.lt
  have ns3:=e3.size
  refine WL.l0 (lsw rfl rfl hb3) ?_
  rintro _ w4 ⟨hb3,e4,hz4⟩
  have ns4:=e4.size
  refine jD 4 rfl ?_
  refine WL.l0 (lst rfl rfl hb3) ?_
  rintro _ w5 ⟨hb3,e5,hz5⟩
  have ns5:=e5.size
  refine jD 5 rfl ?_
  replace hb1:=hb1.mono ((e3.then e4).then e5)
  refine ld rfl hb1 rfl<|WL.q rfl (r_cmp (r_eql rfl rfl) (beqT (hk)))<|jD 4 rfl ?_
  refine WL.l0 (lst rfl rfl hb3) ?_
  rintro _ w6 ⟨hb3,e6,hz6⟩
  have ns6:=e6.size
  refine jD 5 rfl ?_
  replace hb1:=hb1.mono e6
  refine ld rfl hb1 rfl<|jD 4 rfl ?_
  replace hD:=((hD.mono e1).mono e2).mono (((e3.then e4).then e5).then e6)
  replace hb2:=hb2.mono (((e3.then e4).then e5).then e6)
  replace he:=he.then (((e3.then e4).then e5).then e6)
  refine WC.loop2 (ι:=Nat) [(1,_),(2,_),(3,_),(13,_),(14,_)] (fun i=>[(15,.int .i64 (i:Int))]) (fun i wi=>i≤0∧Ext w6 wi) (fun i=>0-i) 0 sb sb (⟨Nat.le_refl _,Ext.refl _⟩) ?_
  intro i wi1 hh;obtain⟨ni,hE⟩:=hh
  refine jA 2 rfl ?_
  refine WL.q rfl (r_cmp (r_lss rfl rfl) (decide_eq_false (by(show¬(i:Int)<(([]:List V).length:Int);simp only[List.length_nil];omega)))) ?_
  refine jD 3 rfl<|WC.exit<|jA 2 rfl ?_
  replace hb3:=hb3.mono hE
  refine la rfl hb3 ?_
  replace hb2:=hb2.mono hE
  refine WL.l0 (lsw rfl rfl hb2) ?_
  rintro _ w7 ⟨hb2,e7,hz7⟩
  have ns7:=e7.size
  refine WL.nil<|WC.ret ?_
  replace hD:=(hD.mono hE).mono e7
  replace he:=(he.then hE).then e7
  exact mM
 ·have e1:eH k=k:=if_neg hk
  rw[e1]
  refine doR Tryz.func182 ?_
  have he:Evo (fun b=>b<w.heap.size) w w:=Evo.refl w
  refine jA 2 rfl ?_
  have hs1:=he.size
  refine bx rfl ?_
  rintro _ w1 ⟨rfl,hb1,e1⟩
  have nx1:=hb1.lt
  have ns1:=e1.size
  replace he:=he.then e1
  have hs2:=he.size
  have hx2b1:=hb1.lt
  refine al ?_
  rintro _ w2 ⟨rfl,hb2,e2⟩
  have nx2:=hb2.lt
  have ns2:=e2.size
  refine jD 3 rfl ?_
  replace hb1:=hb1.mono e2
  refine la rfl hb1 ?_
  replace he:=he.then e2
  have hs3:=he.size
  have hx3b1:=hb1.lt
  have hx3b2:=hb2.lt
  refine al ?_
  rintro _ w3 ⟨rfl,hb3,e3⟩
  have nx3:=hb3.lt
  have ns3:=e3.size
  refine WL.l0 (lsw rfl rfl hb3) ?_
  rintro _ w4 ⟨hb3,e4,hz4⟩
  have ns4:=e4.size
  refine jD 4 rfl ?_
  refine WL.l0 (lst rfl rfl hb3) ?_
  rintro _ w5 ⟨hb3,e5,hz5⟩
  have ns5:=e5.size
  refine jD 5 rfl ?_
  replace hb1:=hb1.mono ((e3.then e4).then e5)
  refine ld rfl hb1 rfl<|WL.q rfl (r_cmp (r_eql rfl rfl) (beqF (hk)))<|jD 3 rfl<|jA 4 rfl<|ld rfl hb1 rfl<|jD 4 rfl ?_
  replace hD:=((hD.mono e1).mono e2).mono ((e3.then e4).then e5)
  replace hb2:=hb2.mono ((e3.then e4).then e5)
  replace he:=he.then ((e3.then e4).then e5)
  refine WC.loop2 (ι:=Nat) [(1,_),(2,_),(3,_),(13,_),(14,_)] (fun i=>[(15,.int .i64 (i:Int))]) (fun i wi=>i≤0∧Ext w5 wi) (fun i=>0-i) 0 sb sb (⟨Nat.le_refl _,Ext.refl _⟩) ?_
  intro i wi1 hh;obtain⟨ni,hE⟩:=hh
  refine jA 2 rfl ?_
  refine WL.q rfl (r_cmp (r_lss rfl rfl) (decide_eq_false (by(show¬(i:Int)<(([]:List V).length:Int);simp only[List.length_nil];omega)))) ?_
  refine jD 3 rfl<|WC.exit<|jA 2 rfl ?_
  replace hb3:=hb3.mono hE
  refine la rfl hb3 ?_
  replace hb2:=hb2.mono hE
  refine WL.l0 (lsw rfl rfl hb2) ?_
  rintro _ w6 ⟨hb2,e6,hz6⟩
  have ns6:=e6.size
  refine WL.nil<|WC.ret ?_
  replace hD:=(hD.mono hE).mono e6
  replace he:=(he.then hE).then e6
  exact mM
theorem fD{A:Nat→Prop}{p:Option Addr}{c:Nat}{ks:List V}{w:World}(hK:aD A w ks.length (.slice p ks.length c) (aa A w ks))(hl:ks.length≤1000):
  Does TP 180 [.slice p ks.length c] w fun r w'=>∃z,r= .bool z∧(z=true→∀x∈ks,18≤x.kind∧x.kind≤20→x.text≠[])∧Ext w w':=by
 refine do1 Tryz.func180 ?_
 have he:Evo (fun _=>True) w w:=Evo.refl w
 refine jA 17 rfl ?_
 refine WC.loop2 (ι:=(Nat×Bool×Bool)) [(2,_),(8,_),(9,_)] (fun i=>[(3,.bool i.2.1),(4,.bool i.2.2),(10,.int .i64 (i.1:Int))]) (fun i wi=>(∀j,j<i.1→18≤(aq ks j).kind∧(aq ks j).kind≤20→(aq ks j).text≠[])∧i.1≤ks.length∧Ext w wi) (fun i=>ks.length-i.1) (0,false,false) sb sb (⟨fun j hj=>absurd hj (by omega),Nat.zero_le _,Ext.refl _⟩) ?_
 intro i wi1 hh;obtain⟨qS,ni,hE⟩:=hh
 obtain⟨i,z1,z2⟩:=i
 dsimp only at qS ni
 rcases Nat.lt_or_ge i ks.length with qi|qi
 replace hK:=hK.mono hE
 ·obtain⟨b1,o1,c1,rfl,_,hA1,l1,hR1⟩:=hK.kid qi
  rcases hf1:aq ks i with⟨k1,n1,t1,ks1,oo1,d1⟩
  rw[hf1]at hR1
  obtain⟨pk1,ck1,pd1,cd1,rfl,_,_,_,_⟩:=hR1.openV
  have qT:(18≤k1→k1≤20→t1≠[])→∀j,j<i+1→18≤(aq ks j).kind∧(aq ks j).kind≤20→(aq ks j).text≠[]:=fun hq j hj hr=>by
   rcases Nat.lt_or_ge j i with h|h
   ·exact qS j h hr
   ·obtain rfl:j=i:=by omega
    rw[hf1]at hr⊢
    exact hq hr.1 hr.2
  refine jA 2 rfl<|lT rfl rfl<|WL.nil<|jA 7 rfl<|ix rfl rfl rfl<|WL.q rfl (r_loadAgg Fo.h rfl (Ext.refl _) hA1 (hn:=rfl)) ?_
  replace he:=he.then hE
  have hs1:=he.size
  refine al ?_
  rintro _ w1 ⟨rfl,hb1,e1⟩
  refine WL.l0 (lsw rfl rfl hb1) ?_
  rintro _ w2 ⟨hb1,e2,hz2⟩
  refine WL.nil<|jA 3 rfl<|ld rfl hb1 rfl<|WL.q rfl (r_cvInt Fo.h rfl)<|jC 2 rfl<|jA 4 rfl<|ld rfl hb1 rfl<|WL.q rfl (r_eql rfl rfl)<|jC 1 rfl ?_
  refine WL.qc rfl rfl rfl rfl (fun hc=>r_fieldAddr rfl Fo.h) ?_
  refine WL.qc rfl rfl rfl rfl (fun hc=>r_load Fb.h (cnd_of hc) (Ext.refl _) (hb1.get rfl)) ?_
  refine WL.qc rfl rfl rfl rfl (fun hc=>r_eql (cnd_of hc) rfl) ?_
  refine WL.q rfl (r_or rfl rfl (fun h=>beq_iff_eq.2 h)) ?_
  refine WL.nil ?_
  refine WC.cond rfl ?_ ?_
  ·intro hc
   refine jA 3 rfl ?_
   refine WL.qc rfl rfl rfl rfl (fun hc=>r_move rfl) ?_
   refine WL.qc rfl rfl rfl rfl (fun hc=>r_lss (cnd_of hc) rfl) ?_
   refine WL.q rfl (r_or rfl rfl (fun h=>beq_iff_eq.2 h)) ?_
   refine jC 2 rfl ?_
   refine WL.qc rfl rfl rfl rfl (fun hc=>r_move rfl) ?_
   refine WL.qc rfl rfl rfl rfl (fun hc=>r_gtr (cnd_of hc) rfl) ?_
   refine WL.q rfl (r_or rfl rfl (fun h=>beq_iff_eq.2 h)) ?_
   refine jC 3 rfl<|jA 4 rfl<|ld rfl hb1 rfl<|WL.q rfl (r_geq rfl rfl)<|jC 1 rfl ?_
   exact ln
  ·intro hc
   refine WC.skip<|jA 4 rfl<|ld rfl hb1 rfl<|WL.q rfl (r_geq rfl rfl)<|jC 1 rfl ?_
   exact ln
 ·have qA:∀x∈ks,18≤x.kind∧x.kind≤20→x.text≠[]:=fun x hx=>by
   obtain⟨j,hj,rfl⟩:=bV hx
   exact qS j (by omega)
  refine jA 2 rfl<|lF rfl rfl<|WL.nil<|jA 2 rfl<|WC.exit<|jA 5 rfl ?_
  refine WL.qc rfl rfl rfl rfl (fun hc=>r_move rfl) ?_
  refine WL.q rfl (r_or rfl rfl (fun h=>beq_iff_eq.2 h)) ?_
  refine jC 2 rfl<|WC.ret ?_
  replace he:=he.then hE
  exact fin1 rfl ⟨_,rfl,fun _=>qA,he⟩
end Go.Proofs.LL
