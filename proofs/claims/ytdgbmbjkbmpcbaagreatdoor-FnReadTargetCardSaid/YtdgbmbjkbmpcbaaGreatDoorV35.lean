/- Own laws of frames, operations and loops, and contracts of functions of the program. Conditions: those that each theorem states. -/
import Derived.Test.YtdgbmbjkbmpcbaaGreatDoorV33
set_option linter.all false
set_option maxRecDepth 20000
namespace Go.Proofs.LL
open Go Go.Proofs Go.RowKit
set_option maxHeartbeats 4000000
attribute [local irreducible] RunOp WL WC WDL WT WX
theorem f8{A:Prop}(h:A:=by
 replace hK:=(hK.mono e1).mono e2
 replace hUT:=(hUT.mono e1).mono e2
 replace hx:=(hx.mono e1).mono e2
 refine WC.seq<|WC.regionD (tt [0,1,2,3,4,5,6,7,8,9,10,11,12,13,14,15,16,17,18,19,20,21,22,23,24,25,26,27,28]) (Ext _) mixed (by kernel_rfl) (Ext.drew _) ?_
 refine jE 19 rfl<|bl rfl rfl rfl hb1 rfl<|jE 1 rfl ?_
 refine WD.qg rfl rfl rfl rfl (fun _ hS=>r_shl rfl rfl (by decide)) ?_
 refine jE 1 rfl ?_
 refine WD.qg rfl rfl rfl rfl (fun _ hS=>r_shr rfl rfl (by decide)) ?_
 refine jE 1 rfl<|bl rfl rfl rfl hb1 rfl ?_
 refine WD.qg rfl rfl rfl rfl (fun _ hS=>r_neq rfl rfl) ?_
 refine jE 2 rfl<|WD.nil ?_
 refine WC.cond rfl ?_ ?_
 ·intro h2
  refine jA 4 rfl<|WC.ret ?_
  replace he:=((he.then e1).then e2).then (Ext.drew _)
  exact fin1 rfl ⟨false,rfl,fun h=>(by cases h),he⟩
 ·intro h2
  have h3:=rc (E:=min (64-8 * 8:Int).toNat IntKind.u64.bits) (F:=min (64-8 * 8:Int).toNat IntKind.u64.bits) (by decide) (by decide) (bne_eq_false_iff_eq.1 h2)
  refine jB 5 rfl ?_
  replace hb1:=hb1.mono (Ext.drew _)
  refine ld rfl hb1 rfl<|jD 51 rfl<|jA 3 rfl<|ld rfl hb1 rfl<|WL.q rfl (r_eql rfl rfl)<|jC 2 rfl<|WC.ret ?_
  replace he:=((he.then e1).then e2).then (Ext.drew _)
  exact fin1 rfl ⟨_,rfl,fun _=>bR (by omega) (by omega) (by omega) (by omega) (by omega) (by omega) (by omega) (by omega) (by omega) (by omega) (by omega) (by omega) (by omega) (by omega),he⟩):A:=h
theorem fj{A:Prop}(h:A:=by
 refine jB 5 rfl ?_
 replace hb1:=hb1.mono (Ext.drew _)
 refine ld rfl hb1 rfl<|jD 51 rfl<|jA 3 rfl<|ld rfl hb1 rfl<|WL.q rfl (r_eql rfl rfl)<|jC 2 rfl<|WC.ret ?_
 replace he:=((he.then e1).then e2).then (Ext.drew _)
 exact fin1 rfl ⟨_,rfl,fun _=>bR (by omega) (by omega) (by omega) (by omega) (by omega) (by omega) (by omega) (by omega) (by omega) (by omega) (by omega) (by omega) (by omega) (by omega),he⟩):A:=h
theorem fZ{A:Prop}(h:A:=by
 exact fin1 rfl ⟨_,rfl,fun _=>bR (by omega) (by omega) (by omega) (by omega) (by omega) (by omega) (by omega) (by omega) (by omega) (by omega) (by omega) (by omega) (by omega) (by omega),he⟩):A:=h
theorem bN{A:Prop}(h:A:=by
 intro h2
 refine jA 4 rfl<|WC.ret ?_
 replace he:=((he.then e1).then e2).then (Ext.drew _)
 exact fin1 rfl ⟨false,rfl,fun h=>(by cases h),he⟩):A:=h
theorem me{A:Prop}(h:A:=by
 replace he:=(he.then e1).then e2
 exact fin1 rfl ⟨_,rfl,fun hb=>bR (by omega) (by omega) (by omega) (by omega) (by omega) (by omega) (by omega) (by omega) (by omega) (fun _=>by have:=eq_of_beq hb;exact_mod_cast this) (by omega) (by omega) (by omega) (by omega),he⟩):A:=h
theorem my{A:Prop}(h:A:=by
 refine WD.lsk rfl ((Evo.drew _)) rfl rfl rfl rfl rfl ?_
 refine jE 3 rfl<|WD.nil<|jA 5 rfl<|WC.ret ?_
 replace he:=(he.then (e2.then e3)).then (Ext.drew _)
 exact fin1 rfl ⟨false,rfl,fun h=>(by cases h),he⟩):A:=h
theorem aj{k s:Int}{w:World}(h:j9 k=s):Does TP 175 [.int .i64 k] w fun r w'=>r= .int .i64 s∧Ext w w':=h▸gt
theorem nE{t:List UInt8}{i:Nat}(h:i<t.length):(⟨t.toArray⟩:ByteArray)[i]?=some t[i]:=by
 show(if h:i<(⟨t.toArray⟩:ByteArray).size then some ((⟨t.toArray⟩:ByteArray)[i])else none)=_
 rw[dif_pos (show i<(⟨t.toArray⟩:ByteArray).size from h)]
 rfl
theorem gE{t:List UInt8}{w:World}(hl:t.length≤131072):
  Does TP 184 [str t] w fun r w'=>∃b,r= .bool b∧(b=true→iB t)∧Ext w w':=by
 refine do1 Tryz.func184 ?_
 refine jA 10 rfl ?_
 refine WC.loop2 (ι:=Nat) [(0,_),(2,_)] (fun i=>[(3,.int .i64 (i:Int))]) (fun i wi=>(∀j (q:j<t.length),j<i→t[j].toNat<128)∧i≤t.length∧Ext w wi) (fun i=>t.length-i) 0 sb sb (⟨fun j _ hj=>absurd hj (by omega),Nat.zero_le _,Ext.refl _⟩) ?_
 intro i wi1 hh;obtain⟨qS,ni,hE⟩:=hh
 rcases Nat.lt_or_ge i t.length with qi|qi
 ·refine jA 5 rfl<|WL.q rfl (r_lens Fb.h rfl) ?_
  refine WL.q rfl (r_cmp (r_lss rfl rfl) (decide_eq_true (by(show(i:Int)<(t.length:Int);omega)))) ?_
  refine WL.nil<|jA 2 rfl<|jA 6 rfl<|WL.q rfl (r_idxs Fb.h rfl rfl rfl (nE qi))<|WL.q rfl (r_geq rfl rfl)<|WL.nil ?_
  refine WC.cond rfl ?_ ?_
  ·intro h2
   refine jA 4 rfl<|WC.ret ?_
   exact fin1 rfl ⟨false,rfl,fun h=>(by cases h),ch⟩
  ·intro h2
   refine WC.skip<|jA 2 rfl<|ai rfl rfl rfl<|jC 2 rfl ?_
   have h3:t[i].toNat<128:=by
    have:=of_decide_eq_false h2
    omega
   have qT:∀j (q:j<t.length),j<i+1→t[j].toNat<128:=fun j q hj=>by
    rcases Nat.lt_or_ge j i with h|h
    ·exact qS j q h
    ·obtain rfl:j=i:=by omega
     exact h3
   exact⟨i+1,sb,sb,⟨qT,qi,(hE)⟩,by omega⟩
 ·refine jA 5 rfl<|WL.q rfl (r_lens Fb.h rfl) ?_
  refine WL.q rfl (r_cmp (r_lss rfl rfl) (decide_eq_false (by(show¬(i:Int)<(t.length:Int);omega)))) ?_
  refine WL.nil<|jA 1 rfl<|WC.exit<|jA 4 rfl<|WC.ret ?_
  have qA:iB t:=fun b hb=>by
   obtain⟨j,hj,rfl⟩:=List.getElem_of_mem hb
   exact qS j hj (by omega)
  exact fin1 rfl ⟨true,rfl,fun _=>qA,ch⟩
theorem gz{A:Nat→Prop}{k:Int}{n:Nat}{t:List UInt8}{ks:List V}{o:Int}{d:List V}{cx:List Value}{w:World}(hx:ag A w (.mk k n t ks o d) cx)(hv:ad ks≤100000):
  Does TP 185 [.agg cx.toArray] w fun r w'=>∃b,r= .bool b∧(b=true→∀x∈ks,x.kind=(aq ks 0).kind∧x.desc.length=(aq ks 0).desc.length)∧Ext w w':=by
 obtain⟨pk,ck,pd,cd,rfl,_,_,hK,_⟩:=hx.openV
 have hkl:=ae ks
 rcases Nat.eq_zero_or_pos ks.length with hk0|hk0
 ·have:ks=[]:=List.eq_nil_of_length_eq_zero hk0
  subst this
  refine do1 Tryz.func185 ?_
  have he:Evo (fun _=>True) w w:=Evo.refl w
  refine jA 2 rfl ?_
  have hs1:=he.size
  refine bx rfl ?_
  rintro _ w1 ⟨rfl,hb1,e1⟩
  refine jC 2 rfl<|jA 4 rfl<|ld rfl hb1 rfl<|jC 1 rfl ?_
  refine WL.q rfl (r_cmp (r_eql rfl rfl) (beqT (by omega))) ?_
  refine WL.nil<|jA 4 rfl<|ld rfl hb1 rfl<|WL.q rfl (r_geq rfl rfl)<|jC 1 rfl ?_
  refine WL.qc rfl rfl rfl rfl (fun hc=>r_fieldAddr rfl Fo.h) ?_
  refine WL.qc rfl rfl rfl rfl (fun hc=>r_load Fb.h (cnd_of hc) (Ext.refl _) (hb1.get rfl)) ?_
  refine WL.qc rfl rfl rfl rfl (fun hc=>r_lss (cnd_of hc) rfl) ?_
  refine WL.q rfl (r_and rfl rfl (fun h=>beq_iff_eq.2 h)) ?_
  refine jC 2 rfl<|WC.ret ?_
  replace he:=he.then e1
  exact fin1 rfl ⟨_,rfl,fun _ x hx=>(by cases hx),he⟩
 ·obtain⟨b,o1,c0,rfl,_,hA0,l0,hR0⟩:=hK.kid hk0
  rcases hf0:aq ks 0 with⟨k0,n0,t0,ks0,oo0,d0⟩
  rw[hf0]at hR0
  obtain⟨pk0,ck0,pd0,cd0,rfl,_,_,_,hD0⟩:=hR0.openV
  have hm0:=an (ak hk0)
  rw[hf0,ah]at hm0
  refine do1 Tryz.func185 ?_
  have he:Evo (fun _=>True) w w:=Evo.refl w
  refine jA 2 rfl ?_
  have hs1:=he.size
  refine bx rfl ?_
  rintro _ w1 ⟨rfl,hb1,e1⟩
  refine jC 2 rfl<|jA 4 rfl<|ld rfl hb1 rfl<|jC 1 rfl ?_
  refine WL.q rfl (r_cmp (r_eql rfl rfl) (beqF (by(omega)))) ?_
  refine WL.nil<|jA 2 rfl<|jA 4 rfl<|ld rfl hb1 rfl<|jC 3 rfl<|jA 1 rfl ?_
  replace hK:=hK.mono e1
  replace hA0:=hA0.mono e1
  replace hD0:=hD0.mono e1
  replace he:=he.then e1
  refine WC.loop2 (ι:=Nat) [(1,_),(2,_),(18,_),(19,_)] (fun i=>[(20,.int .i64 (i:Int))]) (fun i wi=>(∀j,j<i→(aq ks j).kind=k0∧(aq ks j).desc.length=d0.length)∧i≤ks.length∧Ext w1 wi) (fun i=>ks.length-i) 0 sb sb (⟨fun j hj=>absurd hj (by omega),Nat.zero_le _,Ext.refl _⟩) ?_
  intro i wi1 hh;obtain⟨qS,ni,hE⟩:=hh
  rcases Nat.lt_or_ge i ks.length with qi|qi
  replace hK:=hK.mono hE
  ·obtain⟨c1,_,hA1,l1,hR1⟩:=hK.kidP qi
   rcases hf1:aq ks i with⟨k1,n1,t1,ks1,oo1,d1⟩
   rw[hf1]at hR1
   obtain⟨pk1,ck1,pd1,cd1,rfl,_,_,_,hD1⟩:=hR1.openV
   have hm1:=an (ak qi)
   rw[hf1,ah]at hm1
   have qn:k1=k0→d1.length=d0.length→∀j,j<i+1→(aq ks j).kind=k0∧(aq ks j).desc.length=d0.length:=fun e1 e2 j hj=>by
    rcases Nat.lt_or_ge j i with h|h
    ·exact qS j h
    ·obtain rfl:j=i:=by omega
     rw[hf1];exact⟨e1,e2⟩
   rcases Decidable.em (k1=k0)with ek|ek
   ·rcases Decidable.em (d1.length=d0.length)with ed|ed
    ·rcases Decidable.em (d1.length=1)with e1|e1
     ·obtain⟨b2,o2,c2,rfl,_,hA2,l2,hR2⟩:=hD1.kid (i:=0) (by omega)
      replace hD0:=hD0.mono hE
      obtain⟨b3,o3,c3,rfl,_,hA3,l3,hR3⟩:=hD0.kid (i:=0) (by omega)
      refine jA 2 rfl<|lT rfl rfl<|WL.nil<|jA 7 rfl<|ix rfl rfl rfl<|WL.q rfl (r_loadAgg Fo.h rfl (Ext.refl _) hA1 (hn:=rfl)) ?_
      replace he:=he.then hE
      have hs2:=he.size
      replace hb1:=hb1.mono hE
      have hx2b1:=hb1.lt
      refine al ?_
      rintro _ w2 ⟨rfl,hb2,e2⟩
      refine WL.l0 (lsw rfl rfl hb2) ?_
      rintro _ w3 ⟨hb2,e3,hz3⟩
      refine WL.nil ?_
      replace hK:=hK.mono (e2.then e3)
      replace hA0:=(hA0.mono hE).mono (e2.then e3)
      replace hD0:=hD0.mono (e2.then e3)
      replace hb1:=hb1.mono (e2.then e3)
      replace hA1:=hA1.mono (e2.then e3)
      replace hD1:=hD1.mono (e2.then e3)
      replace hA2:=hA2.mono (e2.then e3)
      replace hA3:=hA3.mono (e2.then e3)
      replace hR2:=hR2.mono (e2.then e3)
      replace hR3:=hR3.mono (e2.then e3)
      refine WC.seq<|WC.regionD (tt [0,1,2,3,4,5,6,7,8,9,10,11,12,13,14,15,16,17,18,19,20,21,22,23,24,25,26,27,28,29,30,31,32,33,34,35,36]++ff [37]++tt [38,39,40]) (Ext _) mixed (by kernel_rfl) (Ext.drew _) ?_
      refine jE 1 rfl<|dl rfl hb2 rfl<|jE 1 rfl<|dl rfl hb1 rfl ?_
      refine WD.q rfl (fun _ hS=>r_idx Fo.h rfl rfl rfl (by first|omega|(simp;done)|(simp;omega))) ?_
      refine jE 1 rfl ?_
      refine WD.q rfl (fun _ hS=>r_load Fb.h rfl hS (hA0.get (j:=0) rfl)) ?_
      refine WD.q rfl (fun _ hS=>r_cmp (r_neq rfl rfl) (bneF (ek))) ?_
      refine jE 2 rfl<|bl rfl rfl rfl hb2 rfl<|jE 2 rfl<|bl rfl rfl rfl hb1 rfl ?_
      refine WD.qg rfl rfl rfl rfl (fun _ hS=>r_idx Fo.h rfl rfl rfl (by first|omega|(simp;done)|(simp;omega))) ?_
      refine jE 1 rfl ?_
      refine WD.qg rfl rfl rfl rfl (fun _ hS=>r_load Fb.h rfl hS (hA0.get (j:=5) rfl)) ?_
      refine jE 1 rfl ?_
      refine WD.qg rfl rfl rfl rfl (fun _ hS=>r_cmp (r_neq rfl rfl) (bneF (by(omega)))) ?_
      refine jE 3 rfl<|bl rfl rfl rfl hb2 rfl<|jE 1 rfl ?_
      refine WD.qg rfl rfl rfl rfl (fun _ hS=>r_cmp (r_eql rfl rfl) (beqT (by(omega)))) ?_
      refine jE 2 rfl<|bl rfl rfl rfl hb2 rfl ?_
      refine WD.qg rfl rfl rfl rfl (fun _ hS=>r_idx Fo.h rfl rfl rfl (by first|omega|(simp;done)|(simp;omega))) ?_
      refine WD.qg rfl rfl rfl rfl (fun _ hS=>r_loadAgg Fo.h rfl hS hA2 (hn:=l2)) ?_
      refine jE 1 rfl<|bl rfl rfl rfl hb1 rfl ?_
      refine WD.qg rfl rfl rfl rfl (fun _ hS=>r_idx Fo.h rfl rfl rfl (by first|omega|(simp;done)|(simp;omega))) ?_
      refine jE 1 rfl ?_
      refine WD.qg rfl rfl rfl rfl (fun _ hS=>r_load Fb.h rfl hS (hA0.get (j:=5) rfl)) ?_
      refine WD.qg rfl rfl rfl rfl (fun _ hS=>r_idx Fo.h rfl rfl rfl (by first|omega|(simp;done)|(simp;omega))) ?_
      refine WD.qg rfl rfl rfl rfl (fun _ hS=>r_loadAgg Fo.h rfl hS hA3 (hn:=l3)) ?_
      refine WD.lg rfl rfl rfl rfl rfl (l_do Fb.h rfl (ba (by have:=an (ak (ks:=d1) (j:=0) (by omega));omega) (hR2.mono (Ext.drew _)) (hR3.mono (Ext.drew _)))) ?_
      rintro v4 w4 ⟨rfl,e4⟩
      refine⟨((Evo.drew _).then e4),?_⟩
      refine jE 3 rfl<|WD.nil ?_
      refine WC.cond rfl ?_ ?_
      ·intro h2
       refine jA 4 rfl<|WC.ret ?_
       replace he:=((he.then (e2.then e3)).then (Ext.drew _)).then e4
       exact fin1 rfl ⟨false,rfl,fun h=>(by cases h),he⟩
      ·intro h2
       refine WC.skip<|jA 1 rfl<|ai rfl rfl rfl<|jC 2 rfl ?_
       exact⟨i+1,sb,sb,⟨qn ek ed,qi,((((hE.then (e2.then e3)).then (Ext.drew _)).then e4))⟩,by omega⟩
     ·refine jA 2 rfl<|lT rfl rfl<|WL.nil<|jA 7 rfl<|ix rfl rfl rfl<|WL.q rfl (r_loadAgg Fo.h rfl (Ext.refl _) hA1 (hn:=rfl)) ?_
      replace he:=he.then hE
      have hs2:=he.size
      replace hb1:=hb1.mono hE
      have hx2b1:=hb1.lt
      refine al ?_
      rintro _ w2 ⟨rfl,hb2,e2⟩
      refine WL.l0 (lsw rfl rfl hb2) ?_
      rintro _ w3 ⟨hb2,e3,hz3⟩
      refine WL.nil ?_
      replace hK:=hK.mono (e2.then e3)
      replace hA0:=(hA0.mono hE).mono (e2.then e3)
      replace hD0:=(hD0.mono hE).mono (e2.then e3)
      replace hb1:=hb1.mono (e2.then e3)
      replace hA1:=hA1.mono (e2.then e3)
      replace hD1:=hD1.mono (e2.then e3)
      refine WC.seq<|WC.regionD (tt [0,1,2,3,4,5,6,7,8,9,10,11,12,13,14,15,16,17,18,19,20,21,22,23,24,25,26,27,28,29,30,31,32,33,34,35,36]++ff [37]++tt [38,39,40]) (Ext _) mixed (by kernel_rfl) (Ext.drew _) ?_
      refine jE 1 rfl<|dl rfl hb2 rfl<|jE 1 rfl<|dl rfl hb1 rfl ?_
      refine WD.q rfl (fun _ hS=>r_idx Fo.h rfl rfl rfl (by first|omega|(simp;done)|(simp;omega))) ?_
      refine jE 1 rfl ?_
      refine WD.q rfl (fun _ hS=>r_load Fb.h rfl hS (hA0.get (j:=0) rfl)) ?_
      refine WD.q rfl (fun _ hS=>r_cmp (r_neq rfl rfl) (bneF (ek))) ?_
      refine jE 2 rfl<|bl rfl rfl rfl hb2 rfl<|jE 2 rfl<|bl rfl rfl rfl hb1 rfl ?_
      refine WD.qg rfl rfl rfl rfl (fun _ hS=>r_idx Fo.h rfl rfl rfl (by first|omega|(simp;done)|(simp;omega))) ?_
      refine jE 1 rfl ?_
      refine WD.qg rfl rfl rfl rfl (fun _ hS=>r_load Fb.h rfl hS (hA0.get (j:=5) rfl)) ?_
      refine jE 1 rfl ?_
      refine WD.qg rfl rfl rfl rfl (fun _ hS=>r_cmp (r_neq rfl rfl) (bneF (by(omega)))) ?_
      refine jE 3 rfl<|bl rfl rfl rfl hb2 rfl<|jE 1 rfl ?_
      refine WD.qg rfl rfl rfl rfl (fun _ hS=>r_cmp (r_eql rfl rfl) (beqF (by(omega)))) ?_
      refine jE 12 rfl ?_
      refine WD.lsk rfl ((Evo.drew _)) rfl rfl rfl rfl rfl ?_
      refine jE 3 rfl<|WD.nil<|jA 2 rfl<|jA 1 rfl<|ai rfl rfl rfl<|jC 2 rfl ?_
      exact⟨i+1,sb,sb,⟨qn ek ed,qi,(((hE.then (e2.then e3)).then (Ext.drew _)))⟩,by omega⟩
    ·refine jA 2 rfl<|lT rfl rfl<|WL.nil<|jA 7 rfl<|ix rfl rfl rfl<|WL.q rfl (r_loadAgg Fo.h rfl (Ext.refl _) hA1 (hn:=rfl)) ?_
     replace he:=he.then hE
     have hs2:=he.size
     replace hb1:=hb1.mono hE
     have hx2b1:=hb1.lt
     refine al ?_
     rintro _ w2 ⟨rfl,hb2,e2⟩
     refine WL.l0 (lsw rfl rfl hb2) ?_
     rintro _ w3 ⟨hb2,e3,hz3⟩
     refine WL.nil ?_
     replace hK:=hK.mono (e2.then e3)
     replace hA0:=(hA0.mono hE).mono (e2.then e3)
     replace hD0:=(hD0.mono hE).mono (e2.then e3)
     replace hb1:=hb1.mono (e2.then e3)
     replace hA1:=hA1.mono (e2.then e3)
     replace hD1:=hD1.mono (e2.then e3)
     refine WC.seq<|WC.regionD (tt [0,1,2,3,4,5,6,7,8,9,10,11,12,13,14,15,16,17,18,19,20,21,22,23,24,25,26,27,28,29,30,31,32,33,34,35,36]++ff [37]++tt [38,39,40]) (Ext _) mixed (by kernel_rfl) (Ext.drew _) ?_
     refine jE 1 rfl<|dl rfl hb2 rfl<|jE 1 rfl<|dl rfl hb1 rfl ?_
     refine WD.q rfl (fun _ hS=>r_idx Fo.h rfl rfl rfl (by first|omega|(simp;done)|(simp;omega))) ?_
     refine jE 1 rfl ?_
     refine WD.q rfl (fun _ hS=>r_load Fb.h rfl hS (hA0.get (j:=0) rfl)) ?_
     refine WD.q rfl (fun _ hS=>r_cmp (r_neq rfl rfl) (bneF (ek))) ?_
     refine jE 2 rfl<|bl rfl rfl rfl hb2 rfl<|jE 2 rfl<|bl rfl rfl rfl hb1 rfl ?_
     refine WD.qg rfl rfl rfl rfl (fun _ hS=>r_idx Fo.h rfl rfl rfl (by first|omega|(simp;done)|(simp;omega))) ?_
     refine jE 1 rfl ?_
     refine WD.qg rfl rfl rfl rfl (fun _ hS=>r_load Fb.h rfl hS (hA0.get (j:=5) rfl)) ?_
     refine jE 1 rfl ?_
     refine WD.qg rfl rfl rfl rfl (fun _ hS=>r_cmp (r_neq rfl rfl) (bneT (by(omega)))) ?_
     refine jE 18 rfl ?_
     exact my
   ·refine jA 2 rfl<|lT rfl rfl<|WL.nil<|jA 7 rfl<|ix rfl rfl rfl<|WL.q rfl (r_loadAgg Fo.h rfl (Ext.refl _) hA1 (hn:=rfl)) ?_
    replace he:=he.then hE
    have hs2:=he.size
    replace hb1:=hb1.mono hE
    have hx2b1:=hb1.lt
    refine al ?_
    rintro _ w2 ⟨rfl,hb2,e2⟩
    refine WL.l0 (lsw rfl rfl hb2) ?_
    rintro _ w3 ⟨hb2,e3,hz3⟩
    refine WL.nil ?_
    replace hK:=hK.mono (e2.then e3)
    replace hA0:=(hA0.mono hE).mono (e2.then e3)
    replace hD0:=(hD0.mono hE).mono (e2.then e3)
    replace hb1:=hb1.mono (e2.then e3)
    replace hA1:=hA1.mono (e2.then e3)
    replace hD1:=hD1.mono (e2.then e3)
    refine WC.seq<|WC.regionD (tt [0,1,2,3,4,5,6,7,8,9,10,11,12,13,14,15,16,17,18,19,20,21,22,23,24,25,26,27,28,29,30,31,32,33,34,35,36]++ff [37]++tt [38,39,40]) (Ext _) mixed (by kernel_rfl) (Ext.drew _) ?_
    refine jE 1 rfl<|dl rfl hb2 rfl<|jE 1 rfl<|dl rfl hb1 rfl ?_
    refine WD.q rfl (fun _ hS=>r_idx Fo.h rfl rfl rfl (by first|omega|(simp;done)|(simp;omega))) ?_
    refine jE 1 rfl ?_
    refine WD.q rfl (fun _ hS=>r_load Fb.h rfl hS (hA0.get (j:=0) rfl)) ?_
    refine WD.q rfl (fun _ hS=>r_cmp (r_neq rfl rfl) (bneT (ek))) ?_
    refine jE 29 rfl ?_
    exact my
  ·refine jA 2 rfl<|lF rfl rfl<|WL.nil<|jA 2 rfl<|WC.exit<|jA 3 rfl ?_
   replace hb1:=hb1.mono hE
   refine ld rfl hb1 rfl<|WL.q rfl (r_eql rfl rfl)<|jC 2 rfl<|WC.ret ?_
   have qA:∀x∈ks,x.kind=k0∧x.desc.length=d0.length:=fun x hx=>by
    obtain⟨j,hj,rfl⟩:=bV hx
    exact qS j (by omega)
   replace he:=he.then hE
   exact fin1 rfl ⟨_,rfl,fun _=>qA,he⟩
theorem sg{A:Nat→Prop}{n:Nat}{t:List UInt8}{ks:List V}{o:Int}{d:List V}{cx:List Value}{w:World}(hx:ag A w (.mk 0 n t ks o d) cx)(hv:ad ks≤100000)(hUT:UT w)(ht:t.length≤131072)(hn:n=0):
  Does TP 93 [.agg cx.toArray] w fun r w'=>∃b,r= .bool b∧(b=true→CF 0 n t ks)∧Ext w w':=by
 have hkl:=ae ks
 obtain⟨pk,ck,pd,cd,rfl,_,_,hK,_⟩:=hx.openV
 refine do1 Tryz.func93 ?_
 have he:Evo (fun _=>True) w w:=Evo.refl w
 refine jA 2 rfl ?_
 have hs1:=he.size
 refine bx rfl ?_
 rintro _ w1 ⟨rfl,hb1,e1⟩
 refine jD 6 rfl<|ld rfl hb1 rfl ?_
 refine cl rfl (aj (s:= -1) (by decide)) ?_
 rintro v2 w2 ⟨rfl,e2⟩
 refine jD 5 rfl<|WL.q rfl (r_gtr rfl rfl)<|jD 7 rfl<|jA 4 rfl ?_
 replace hb1:=hb1.mono e2
 refine ld rfl hb1 rfl<|jD 51 rfl<|jA 3 rfl<|ld rfl hb1 rfl<|WL.q rfl (r_eql rfl rfl)<|jC 2 rfl<|WC.ret ?_
 replace he:=(he.then e1).then e2
 exact fZ
theorem r6{A:Nat→Prop}{n:Nat}{t:List UInt8}{ks:List V}{o:Int}{d:List V}{cx:List Value}{w:World}(hx:ag A w (.mk 1 n t ks o d) cx)(hv:ad ks≤100000)(hUT:UT w)(ht:t.length≤131072):
  Does TP 93 [.agg cx.toArray] w fun r w'=>∃b,r= .bool b∧(b=true→CF 1 n t ks)∧Ext w w':=by
 have hkl:=ae ks
 obtain⟨pk,ck,pd,cd,rfl,_,_,hK,_⟩:=hx.openV
 refine do1 Tryz.func93 ?_
 have he:Evo (fun _=>True) w w:=Evo.refl w
 refine jA 2 rfl ?_
 have hs1:=he.size
 refine bx rfl ?_
 rintro _ w1 ⟨rfl,hb1,e1⟩
 refine jD 6 rfl<|ld rfl hb1 rfl ?_
 refine cl rfl (aj (s:= -1) (by decide)) ?_
 rintro v2 w2 ⟨rfl,e2⟩
 refine jD 5 rfl<|WL.q rfl (r_gtr rfl rfl)<|jD 7 rfl<|jA 4 rfl ?_
 replace hb1:=hb1.mono e2
 refine ld rfl hb1 rfl<|jD 11 rfl<|ld rfl hb1 rfl<|WL.q rfl (r_leq rfl rfl)<|jC 2 rfl<|WC.ret ?_
 replace he:=(he.then e1).then e2
 exact fin1 rfl ⟨_,rfl,fun hb=>bR (fun _=>by have:=of_decide_eq_true hb;omega) (by omega) (by omega) (by omega) (by omega) (by omega) (by omega) (by omega) (by have:=of_decide_eq_true hb;omega) (by omega) (by omega) (by omega) (by omega) (by omega),he⟩
theorem r5{A:Nat→Prop}{n:Nat}{t:List UInt8}{ks:List V}{o:Int}{d:List V}{cx:List Value}{w:World}(hx:ag A w (.mk 2 n t ks o d) cx)(hv:ad ks≤100000)(hUT:UT w)(ht:t.length≤131072):
  Does TP 93 [.agg cx.toArray] w fun r w'=>∃b,r= .bool b∧(b=true→CF 2 n t ks)∧Ext w w':=by
 have hkl:=ae ks
 obtain⟨pk,ck,pd,cd,rfl,_,_,hK,_⟩:=hx.openV
 refine do1 Tryz.func93 ?_
 have he:Evo (fun _=>True) w w:=Evo.refl w
 refine jA 2 rfl ?_
 have hs1:=he.size
 refine bx rfl ?_
 rintro _ w1 ⟨rfl,hb1,e1⟩
 refine jD 6 rfl<|ld rfl hb1 rfl ?_
 refine cl rfl (aj (s:=1) (by decide)) ?_
 rintro v2 w2 ⟨rfl,e2⟩
 refine jD 5 rfl<|WL.q rfl (r_gtr rfl rfl)<|jC 2 rfl<|WL.qg rfl rfl rfl rfl (r_leq rfl rfl)<|jD 6 rfl ?_
 refine WL.q rfl (r_muli rfl rfl rfl (by omega) (by omega)) ?_
 refine WL.q rfl (r_subi rfl rfl rfl (by omega) (by omega)) ?_
 refine jD 5 rfl ?_
 replace hb1:=hb1.mono e2
 refine ld rfl hb1 rfl<|WL.q rfl (r_geq rfl rfl)<|jC 7 rfl ?_
 replace hK:=(hK.mono e1).mono e2
 replace hUT:=(hUT.mono e1).mono e2
 replace hx:=(hx.mono e1).mono e2
 refine WC.seq<|WC.regionD (tt [0,1,2,3,4,5,6,7,8,9,10,11,12,13,14,15,16,17,18,19,20,21,22,23,24,25,26,27,28]) (Ext _) mixed (by kernel_rfl) (Ext.drew _) ?_
 refine jE 19 rfl<|bl rfl rfl rfl hb1 rfl<|jE 1 rfl ?_
 refine WD.qg rfl rfl rfl rfl (fun _ hS=>r_shl rfl rfl (by decide)) ?_
 refine jE 1 rfl ?_
 refine WD.qg rfl rfl rfl rfl (fun _ hS=>r_shr rfl rfl (by decide)) ?_
 refine jE 1 rfl<|bl rfl rfl rfl hb1 rfl ?_
 refine WD.qg rfl rfl rfl rfl (fun _ hS=>r_neq rfl rfl) ?_
 refine jE 2 rfl<|WD.nil ?_
 refine WC.cond rfl ?_ ?_
 ·exact bN
 ·intro h2
  have h3:=qm (E:=min (64-8 * 1:Int).toNat IntKind.u64.bits) (F:=min (64-8 * 1:Int).toNat IntKind.u64.bits) (by decide) (by decide) (bne_eq_false_iff_eq.1 h2)
  exact fj
theorem sj{A:Nat→Prop}{n:Nat}{t:List UInt8}{ks:List V}{o:Int}{d:List V}{cx:List Value}{w:World}(hx:ag A w (.mk 3 n t ks o d) cx)(hv:ad ks≤100000)(hUT:UT w)(ht:t.length≤131072):
  Does TP 93 [.agg cx.toArray] w fun r w'=>∃b,r= .bool b∧(b=true→CF 3 n t ks)∧Ext w w':=by
 have hkl:=ae ks
 obtain⟨pk,ck,pd,cd,rfl,_,_,hK,_⟩:=hx.openV
 refine do1 Tryz.func93 ?_
 have he:Evo (fun _=>True) w w:=Evo.refl w
 refine jA 2 rfl ?_
 have hs1:=he.size
 refine bx rfl ?_
 rintro _ w1 ⟨rfl,hb1,e1⟩
 refine jD 6 rfl<|ld rfl hb1 rfl ?_
 refine cl rfl (aj (s:=2) (by decide)) ?_
 rintro v2 w2 ⟨rfl,e2⟩
 refine jD 5 rfl<|WL.q rfl (r_gtr rfl rfl)<|jC 2 rfl<|WL.qg rfl rfl rfl rfl (r_leq rfl rfl)<|jD 6 rfl ?_
 refine WL.q rfl (r_muli rfl rfl rfl (by omega) (by omega)) ?_
 refine WL.q rfl (r_subi rfl rfl rfl (by omega) (by omega)) ?_
 refine jD 5 rfl ?_
 replace hb1:=hb1.mono e2
 refine ld rfl hb1 rfl<|WL.q rfl (r_geq rfl rfl)<|jC 7 rfl ?_
 replace hK:=(hK.mono e1).mono e2
 replace hUT:=(hUT.mono e1).mono e2
 replace hx:=(hx.mono e1).mono e2
 refine WC.seq<|WC.regionD (tt [0,1,2,3,4,5,6,7,8,9,10,11,12,13,14,15,16,17,18,19,20,21,22,23,24,25,26,27,28]) (Ext _) mixed (by kernel_rfl) (Ext.drew _) ?_
 refine jE 19 rfl<|bl rfl rfl rfl hb1 rfl<|jE 1 rfl ?_
 refine WD.qg rfl rfl rfl rfl (fun _ hS=>r_shl rfl rfl (by decide)) ?_
 refine jE 1 rfl ?_
 refine WD.qg rfl rfl rfl rfl (fun _ hS=>r_shr rfl rfl (by decide)) ?_
 refine jE 1 rfl<|bl rfl rfl rfl hb1 rfl ?_
 refine WD.qg rfl rfl rfl rfl (fun _ hS=>r_neq rfl rfl) ?_
 refine jE 2 rfl<|WD.nil ?_
 refine WC.cond rfl ?_ ?_
 ·exact bN
 ·intro h2
  have h3:=qH (E:=min (64-8 * 2:Int).toNat IntKind.u64.bits) (F:=min (64-8 * 2:Int).toNat IntKind.u64.bits) (by decide) (by decide) (bne_eq_false_iff_eq.1 h2)
  exact fj
theorem sn{A:Nat→Prop}{n:Nat}{t:List UInt8}{ks:List V}{o:Int}{d:List V}{cx:List Value}{w:World}(hx:ag A w (.mk 4 n t ks o d) cx)(hv:ad ks≤100000)(hUT:UT w)(ht:t.length≤131072):
  Does TP 93 [.agg cx.toArray] w fun r w'=>∃b,r= .bool b∧(b=true→CF 4 n t ks)∧Ext w w':=by
 have hkl:=ae ks
 obtain⟨pk,ck,pd,cd,rfl,_,_,hK,_⟩:=hx.openV
 refine do1 Tryz.func93 ?_
 have he:Evo (fun _=>True) w w:=Evo.refl w
 refine jA 2 rfl ?_
 have hs1:=he.size
 refine bx rfl ?_
 rintro _ w1 ⟨rfl,hb1,e1⟩
 refine jD 6 rfl<|ld rfl hb1 rfl ?_
 refine cl rfl (aj (s:=4) (by decide)) ?_
 rintro v2 w2 ⟨rfl,e2⟩
 refine jD 5 rfl<|WL.q rfl (r_gtr rfl rfl)<|jC 2 rfl<|WL.qg rfl rfl rfl rfl (r_leq rfl rfl)<|jD 6 rfl ?_
 refine WL.q rfl (r_muli rfl rfl rfl (by omega) (by omega)) ?_
 refine WL.q rfl (r_subi rfl rfl rfl (by omega) (by omega)) ?_
 refine jD 5 rfl ?_
 replace hb1:=hb1.mono e2
 refine ld rfl hb1 rfl<|WL.q rfl (r_geq rfl rfl)<|jC 7 rfl ?_
 replace hK:=(hK.mono e1).mono e2
 replace hUT:=(hUT.mono e1).mono e2
 replace hx:=(hx.mono e1).mono e2
 refine WC.seq<|WC.regionD (tt [0,1,2,3,4,5,6,7,8,9,10,11,12,13,14,15,16,17,18,19,20,21,22,23,24,25,26,27,28]) (Ext _) mixed (by kernel_rfl) (Ext.drew _) ?_
 refine jE 19 rfl<|bl rfl rfl rfl hb1 rfl<|jE 1 rfl ?_
 refine WD.qg rfl rfl rfl rfl (fun _ hS=>r_shl rfl rfl (by decide)) ?_
 refine jE 1 rfl ?_
 refine WD.qg rfl rfl rfl rfl (fun _ hS=>r_shr rfl rfl (by decide)) ?_
 refine jE 1 rfl<|bl rfl rfl rfl hb1 rfl ?_
 refine WD.qg rfl rfl rfl rfl (fun _ hS=>r_neq rfl rfl) ?_
 refine jE 2 rfl<|WD.nil ?_
 refine WC.cond rfl ?_ ?_
 ·exact bN
 ·intro h2
  have h3:=j5 (E:=min (64-8 * 4:Int).toNat IntKind.u64.bits) (F:=min (64-8 * 4:Int).toNat IntKind.u64.bits) (by decide) (by decide) (bne_eq_false_iff_eq.1 h2)
  exact fj
theorem sl{A:Nat→Prop}{n:Nat}{t:List UInt8}{ks:List V}{o:Int}{d:List V}{cx:List Value}{w:World}(hx:ag A w (.mk 5 n t ks o d) cx)(hv:ad ks≤100000)(hUT:UT w)(ht:t.length≤131072):
  Does TP 93 [.agg cx.toArray] w fun r w'=>∃b,r= .bool b∧(b=true→CF 5 n t ks)∧Ext w w':=by
 have hkl:=ae ks
 obtain⟨pk,ck,pd,cd,rfl,_,_,hK,_⟩:=hx.openV
 refine do1 Tryz.func93 ?_
 have he:Evo (fun _=>True) w w:=Evo.refl w
 refine jA 2 rfl ?_
 have hs1:=he.size
 refine bx rfl ?_
 rintro _ w1 ⟨rfl,hb1,e1⟩
 refine jD 6 rfl<|ld rfl hb1 rfl ?_
 refine cl rfl (aj (s:=8) (by decide)) ?_
 rintro v2 w2 ⟨rfl,e2⟩
 refine jD 5 rfl<|WL.q rfl (r_gtr rfl rfl)<|jC 2 rfl<|WL.qg rfl rfl rfl rfl (r_leq rfl rfl)<|jD 6 rfl ?_
 refine WL.q rfl (r_muli rfl rfl rfl (by omega) (by omega)) ?_
 refine WL.q rfl (r_subi rfl rfl rfl (by omega) (by omega)) ?_
 refine jD 5 rfl ?_
 replace hb1:=hb1.mono e2
 refine ld rfl hb1 rfl<|WL.q rfl (r_geq rfl rfl)<|jC 7 rfl ?_
 exact f8
theorem su{A:Nat→Prop}{n:Nat}{t:List UInt8}{ks:List V}{o:Int}{d:List V}{cx:List Value}{w:World}(hx:ag A w (.mk 6 n t ks o d) cx)(hv:ad ks≤100000)(hUT:UT w)(ht:t.length≤131072):
  Does TP 93 [.agg cx.toArray] w fun r w'=>∃b,r= .bool b∧(b=true→CF 6 n t ks)∧Ext w w':=by
 have hkl:=ae ks
 obtain⟨pk,ck,pd,cd,rfl,_,_,hK,_⟩:=hx.openV
 refine do1 Tryz.func93 ?_
 have he:Evo (fun _=>True) w w:=Evo.refl w
 refine jA 2 rfl ?_
 have hs1:=he.size
 refine bx rfl ?_
 rintro _ w1 ⟨rfl,hb1,e1⟩
 refine jD 6 rfl<|ld rfl hb1 rfl ?_
 refine cl rfl (aj (s:=1) (by decide)) ?_
 rintro v2 w2 ⟨rfl,e2⟩
 refine jD 5 rfl<|WL.q rfl (r_gtr rfl rfl)<|jC 2 rfl<|WL.qg rfl rfl rfl rfl (r_leq rfl rfl)<|jD 6 rfl ?_
 refine WL.q rfl (r_muli rfl rfl rfl (by omega) (by omega)) ?_
 refine WL.q rfl (r_subi rfl rfl rfl (by omega) (by omega)) ?_
 refine jD 5 rfl ?_
 replace hb1:=hb1.mono e2
 refine ld rfl hb1 rfl<|WL.q rfl (r_geq rfl rfl)<|jC 2 rfl<|lg rfl rfl rfl hb1 rfl<|WL.qg rfl rfl rfl rfl (r_leq rfl rfl)<|jC 3 rfl ?_
 replace hK:=(hK.mono e1).mono e2
 replace hUT:=(hUT.mono e1).mono e2
 replace hx:=(hx.mono e1).mono e2
 refine WC.seq<|WC.regionD (tt [0,1,2,3,4,5,6,7,8,9,10,11,12,13,14,15,16,17,18,19,20,21,22,23,24,25,26,27,28]) (Ext _) mixed (by kernel_rfl) (Ext.drew _) ?_
 refine jE 3 rfl<|bl rfl rfl rfl hb1 rfl<|jE 1 rfl ?_
 refine WD.qg rfl rfl rfl rfl (fun _ hS=>r_shl rfl rfl (by decide)) ?_
 refine WD.qg rfl rfl rfl rfl (fun _ hS=>r_cvInt Fo.h rfl) ?_
 refine jE 1 rfl ?_
 refine WD.qg rfl rfl rfl rfl (fun _ hS=>r_shr rfl rfl (by decide)) ?_
 refine WD.qg rfl rfl rfl rfl (fun _ hS=>r_cvInt Fo.h rfl) ?_
 refine jE 1 rfl<|bl rfl rfl rfl hb1 rfl ?_
 refine WD.qg rfl rfl rfl rfl (fun _ hS=>r_neq rfl rfl) ?_
 refine jE 2 rfl ?_
 refine WD.qc rfl rfl rfl rfl (fun hc=>fun _ hS=>r_move rfl) ?_
 refine WD.qc rfl rfl rfl rfl (fun hc=>fun _ hS=>r_not (cnd_of hc)) ?_
 refine WD.qc rfl rfl rfl rfl (fun hc=>fun _ hS=>r_move (cnd_of hc)) ?_
 refine WD.qcc rfl rfl rfl rfl (fun hc hx=>fun _ hS=>r_fieldAddr rfl Fo.h) ?_
 refine WD.qcc rfl rfl rfl rfl (fun hc hx=>fun _ hS=>r_load Fb.h (cnd_and hc hx) hS (hb1.get rfl)) ?_
 refine WD.qcc rfl rfl rfl rfl (fun hc hx=>fun _ hS=>r_move rfl) ?_
 refine WD.qcc rfl rfl rfl rfl (fun hc hx=>fun _ hS=>r_shl (cnd_and hc hx) (cnd_and hc hx) (by decide)) ?_
 refine WD.qcc rfl rfl rfl rfl (fun hc hx=>fun _ hS=>r_move rfl) ?_
 refine WD.qcc rfl rfl rfl rfl (fun hc hx=>fun _ hS=>r_shr (cnd_and hc hx) (cnd_and hc hx) (by decide)) ?_
 refine WD.qcc rfl rfl rfl rfl (fun hc hx=>fun _ hS=>r_fieldAddr rfl Fo.h) ?_
 refine WD.qcc rfl rfl rfl rfl (fun hc hx=>fun _ hS=>r_load Fb.h (cnd_and hc hx) hS (hb1.get rfl)) ?_
 refine WD.qcc rfl rfl rfl rfl (fun hc hx=>fun _ hS=>r_neq (cnd_and hc hx) (cnd_and hc hx)) ?_
 refine WD.qc rfl rfl rfl rfl (fun hc=>fun _ hS=>r_and (cnd_of hc) rfl (fun h=>by first|(simp[*];done)|(exfalso;simp at h;done)|(simp_all;done))) ?_
 refine WD.q rfl (fun _ hS=>r_or rfl rfl (fun h=>beq_iff_eq.2 h)) ?_
 refine WD.nil ?_
 refine WC.cond rfl ?_ ?_
 ·exact bN
 ·intro h2
  have h3:=sh (E:=min (64-8 * 1:Int).toNat IntKind.u64.bits) (F:=min (64-8 * 1:Int).toNat IntKind.i64.bits) (by decide) (by decide) (bne_eq_false_iff_eq.1 (Bool.or_eq_false_iff.1 h2).1)
  obtain⟨h4,h5⟩:=h3
  refine jB 5 rfl ?_
  replace hb1:=hb1.mono (Ext.drew _)
  refine ld rfl hb1 rfl<|jD 51 rfl<|jA 3 rfl<|ld rfl hb1 rfl<|WL.q rfl (r_eql rfl rfl)<|jC 2 rfl<|WC.ret ?_
  replace he:=((he.then e1).then e2).then (Ext.drew _)
  exact fin1 rfl ⟨_,rfl,fun _=>bR (by omega) (by omega) (by omega) (by omega) (fun _=>h4) (by omega) (by omega) (by omega) h5 (by omega) (by omega) (by omega) (by omega) (by omega),he⟩
theorem si{A:Nat→Prop}{n:Nat}{t:List UInt8}{ks:List V}{o:Int}{d:List V}{cx:List Value}{w:World}(hx:ag A w (.mk 7 n t ks o d) cx)(hv:ad ks≤100000)(hUT:UT w)(ht:t.length≤131072):
  Does TP 93 [.agg cx.toArray] w fun r w'=>∃b,r= .bool b∧(b=true→CF 7 n t ks)∧Ext w w':=by
 have hkl:=ae ks
 obtain⟨pk,ck,pd,cd,rfl,_,_,hK,_⟩:=hx.openV
 refine do1 Tryz.func93 ?_
 have he:Evo (fun _=>True) w w:=Evo.refl w
 refine jA 2 rfl ?_
 have hs1:=he.size
 refine bx rfl ?_
 rintro _ w1 ⟨rfl,hb1,e1⟩
 refine jD 6 rfl<|ld rfl hb1 rfl ?_
 refine cl rfl (aj (s:=2) (by decide)) ?_
 rintro v2 w2 ⟨rfl,e2⟩
 refine jD 5 rfl<|WL.q rfl (r_gtr rfl rfl)<|jC 2 rfl<|WL.qg rfl rfl rfl rfl (r_leq rfl rfl)<|jD 6 rfl ?_
 refine WL.q rfl (r_muli rfl rfl rfl (by omega) (by omega)) ?_
 refine WL.q rfl (r_subi rfl rfl rfl (by omega) (by omega)) ?_
 refine jD 5 rfl ?_
 replace hb1:=hb1.mono e2
 refine ld rfl hb1 rfl<|WL.q rfl (r_geq rfl rfl)<|jC 2 rfl<|lg rfl rfl rfl hb1 rfl<|WL.qg rfl rfl rfl rfl (r_leq rfl rfl)<|jC 3 rfl ?_
 replace hK:=(hK.mono e1).mono e2
 replace hUT:=(hUT.mono e1).mono e2
 replace hx:=(hx.mono e1).mono e2
 refine WC.seq<|WC.regionD (tt [0,1,2,3,4,5,6,7,8,9,10,11,12,13,14,15,16,17,18,19,20,21,22,23,24,25,26,27,28]) (Ext _) mixed (by kernel_rfl) (Ext.drew _) ?_
 refine jE 3 rfl<|bl rfl rfl rfl hb1 rfl<|jE 1 rfl ?_
 refine WD.qg rfl rfl rfl rfl (fun _ hS=>r_shl rfl rfl (by decide)) ?_
 refine WD.qg rfl rfl rfl rfl (fun _ hS=>r_cvInt Fo.h rfl) ?_
 refine jE 1 rfl ?_
 refine WD.qg rfl rfl rfl rfl (fun _ hS=>r_shr rfl rfl (by decide)) ?_
 refine WD.qg rfl rfl rfl rfl (fun _ hS=>r_cvInt Fo.h rfl) ?_
 refine jE 1 rfl<|bl rfl rfl rfl hb1 rfl ?_
 refine WD.qg rfl rfl rfl rfl (fun _ hS=>r_neq rfl rfl) ?_
 refine jE 2 rfl ?_
 refine WD.qc rfl rfl rfl rfl (fun hc=>fun _ hS=>r_move rfl) ?_
 refine WD.qc rfl rfl rfl rfl (fun hc=>fun _ hS=>r_not (cnd_of hc)) ?_
 refine WD.qc rfl rfl rfl rfl (fun hc=>fun _ hS=>r_move (cnd_of hc)) ?_
 refine WD.qcc rfl rfl rfl rfl (fun hc hx=>fun _ hS=>r_fieldAddr rfl Fo.h) ?_
 refine WD.qcc rfl rfl rfl rfl (fun hc hx=>fun _ hS=>r_load Fb.h (cnd_and hc hx) hS (hb1.get rfl)) ?_
 refine WD.qcc rfl rfl rfl rfl (fun hc hx=>fun _ hS=>r_move rfl) ?_
 refine WD.qcc rfl rfl rfl rfl (fun hc hx=>fun _ hS=>r_shl (cnd_and hc hx) (cnd_and hc hx) (by decide)) ?_
 refine WD.qcc rfl rfl rfl rfl (fun hc hx=>fun _ hS=>r_move rfl) ?_
 refine WD.qcc rfl rfl rfl rfl (fun hc hx=>fun _ hS=>r_shr (cnd_and hc hx) (cnd_and hc hx) (by decide)) ?_
 refine WD.qcc rfl rfl rfl rfl (fun hc hx=>fun _ hS=>r_fieldAddr rfl Fo.h) ?_
 refine WD.qcc rfl rfl rfl rfl (fun hc hx=>fun _ hS=>r_load Fb.h (cnd_and hc hx) hS (hb1.get rfl)) ?_
 refine WD.qcc rfl rfl rfl rfl (fun hc hx=>fun _ hS=>r_neq (cnd_and hc hx) (cnd_and hc hx)) ?_
 refine WD.qc rfl rfl rfl rfl (fun hc=>fun _ hS=>r_and (cnd_of hc) rfl (fun h=>by first|(simp[*];done)|(exfalso;simp at h;done)|(simp_all;done))) ?_
 refine WD.q rfl (fun _ hS=>r_or rfl rfl (fun h=>beq_iff_eq.2 h)) ?_
 refine WD.nil ?_
 refine WC.cond rfl ?_ ?_
 ·exact bN
 ·intro h2
  have h3:=sy (E:=min (64-8 * 2:Int).toNat IntKind.u64.bits) (F:=min (64-8 * 2:Int).toNat IntKind.i64.bits) (by decide) (by decide) (bne_eq_false_iff_eq.1 (Bool.or_eq_false_iff.1 h2).1)
  obtain⟨h4,h5⟩:=h3
  refine jB 5 rfl ?_
  replace hb1:=hb1.mono (Ext.drew _)
  refine ld rfl hb1 rfl<|jD 51 rfl<|jA 3 rfl<|ld rfl hb1 rfl<|WL.q rfl (r_eql rfl rfl)<|jC 2 rfl<|WC.ret ?_
  replace he:=((he.then e1).then e2).then (Ext.drew _)
  exact fin1 rfl ⟨_,rfl,fun _=>bR (by omega) (by omega) (by omega) (by omega) (by omega) (fun _=>h4) (by omega) (by omega) h5 (by omega) (by omega) (by omega) (by omega) (by omega),he⟩
theorem sz{A:Nat→Prop}{n:Nat}{t:List UInt8}{ks:List V}{o:Int}{d:List V}{cx:List Value}{w:World}(hx:ag A w (.mk 8 n t ks o d) cx)(hv:ad ks≤100000)(hUT:UT w)(ht:t.length≤131072):
  Does TP 93 [.agg cx.toArray] w fun r w'=>∃b,r= .bool b∧(b=true→CF 8 n t ks)∧Ext w w':=by
 have hkl:=ae ks
 obtain⟨pk,ck,pd,cd,rfl,_,_,hK,_⟩:=hx.openV
 refine do1 Tryz.func93 ?_
 have he:Evo (fun _=>True) w w:=Evo.refl w
 refine jA 2 rfl ?_
 have hs1:=he.size
 refine bx rfl ?_
 rintro _ w1 ⟨rfl,hb1,e1⟩
 refine jD 6 rfl<|ld rfl hb1 rfl ?_
 refine cl rfl (aj (s:=4) (by decide)) ?_
 rintro v2 w2 ⟨rfl,e2⟩
 refine jD 5 rfl<|WL.q rfl (r_gtr rfl rfl)<|jC 2 rfl<|WL.qg rfl rfl rfl rfl (r_leq rfl rfl)<|jD 6 rfl ?_
 refine WL.q rfl (r_muli rfl rfl rfl (by omega) (by omega)) ?_
 refine WL.q rfl (r_subi rfl rfl rfl (by omega) (by omega)) ?_
 refine jD 5 rfl ?_
 replace hb1:=hb1.mono e2
 refine ld rfl hb1 rfl<|WL.q rfl (r_geq rfl rfl)<|jC 2 rfl<|lg rfl rfl rfl hb1 rfl<|WL.qg rfl rfl rfl rfl (r_leq rfl rfl)<|jC 3 rfl ?_
 replace hK:=(hK.mono e1).mono e2
 replace hUT:=(hUT.mono e1).mono e2
 replace hx:=(hx.mono e1).mono e2
 refine WC.seq<|WC.regionD (tt [0,1,2,3,4,5,6,7,8,9,10,11,12,13,14,15,16,17,18,19,20,21,22,23,24,25,26,27,28]) (Ext _) mixed (by kernel_rfl) (Ext.drew _) ?_
 refine jE 3 rfl<|bl rfl rfl rfl hb1 rfl<|jE 1 rfl ?_
 refine WD.qg rfl rfl rfl rfl (fun _ hS=>r_shl rfl rfl (by decide)) ?_
 refine WD.qg rfl rfl rfl rfl (fun _ hS=>r_cvInt Fo.h rfl) ?_
 refine jE 1 rfl ?_
 refine WD.qg rfl rfl rfl rfl (fun _ hS=>r_shr rfl rfl (by decide)) ?_
 refine WD.qg rfl rfl rfl rfl (fun _ hS=>r_cvInt Fo.h rfl) ?_
 refine jE 1 rfl<|bl rfl rfl rfl hb1 rfl ?_
 refine WD.qg rfl rfl rfl rfl (fun _ hS=>r_neq rfl rfl) ?_
 refine jE 2 rfl ?_
 refine WD.qc rfl rfl rfl rfl (fun hc=>fun _ hS=>r_move rfl) ?_
 refine WD.qc rfl rfl rfl rfl (fun hc=>fun _ hS=>r_not (cnd_of hc)) ?_
 refine WD.qc rfl rfl rfl rfl (fun hc=>fun _ hS=>r_move (cnd_of hc)) ?_
 refine WD.qcc rfl rfl rfl rfl (fun hc hx=>fun _ hS=>r_fieldAddr rfl Fo.h) ?_
 refine WD.qcc rfl rfl rfl rfl (fun hc hx=>fun _ hS=>r_load Fb.h (cnd_and hc hx) hS (hb1.get rfl)) ?_
 refine WD.qcc rfl rfl rfl rfl (fun hc hx=>fun _ hS=>r_move rfl) ?_
 refine WD.qcc rfl rfl rfl rfl (fun hc hx=>fun _ hS=>r_shl (cnd_and hc hx) (cnd_and hc hx) (by decide)) ?_
 refine WD.qcc rfl rfl rfl rfl (fun hc hx=>fun _ hS=>r_move rfl) ?_
 refine WD.qcc rfl rfl rfl rfl (fun hc hx=>fun _ hS=>r_shr (cnd_and hc hx) (cnd_and hc hx) (by decide)) ?_
 refine WD.qcc rfl rfl rfl rfl (fun hc hx=>fun _ hS=>r_fieldAddr rfl Fo.h) ?_
 refine WD.qcc rfl rfl rfl rfl (fun hc hx=>fun _ hS=>r_load Fb.h (cnd_and hc hx) hS (hb1.get rfl)) ?_
 refine WD.qcc rfl rfl rfl rfl (fun hc hx=>fun _ hS=>r_neq (cnd_and hc hx) (cnd_and hc hx)) ?_
 refine WD.qc rfl rfl rfl rfl (fun hc=>fun _ hS=>r_and (cnd_of hc) rfl (fun h=>by first|(simp[*];done)|(exfalso;simp at h;done)|(simp_all;done))) ?_
 refine WD.q rfl (fun _ hS=>r_or rfl rfl (fun h=>beq_iff_eq.2 h)) ?_
 refine WD.nil ?_
 refine WC.cond rfl ?_ ?_
 ·exact bN
 ·intro h2
  have h3:=sA (E:=min (64-8 * 4:Int).toNat IntKind.u64.bits) (F:=min (64-8 * 4:Int).toNat IntKind.i64.bits) (by decide) (by decide) (bne_eq_false_iff_eq.1 (Bool.or_eq_false_iff.1 h2).1)
  obtain⟨h4,h5⟩:=h3
  refine jB 5 rfl ?_
  replace hb1:=hb1.mono (Ext.drew _)
  refine ld rfl hb1 rfl<|jD 51 rfl<|jA 3 rfl<|ld rfl hb1 rfl<|WL.q rfl (r_eql rfl rfl)<|jC 2 rfl<|WC.ret ?_
  replace he:=((he.then e1).then e2).then (Ext.drew _)
  exact fin1 rfl ⟨_,rfl,fun _=>bR (by omega) (by omega) (by omega) (by omega) (by omega) (by omega) (fun _=>h4) (by omega) h5 (by omega) (by omega) (by omega) (by omega) (by omega),he⟩
theorem sq{A:Nat→Prop}{n:Nat}{t:List UInt8}{ks:List V}{o:Int}{d:List V}{cx:List Value}{w:World}(hx:ag A w (.mk 9 n t ks o d) cx)(hv:ad ks≤100000)(hUT:UT w)(ht:t.length≤131072):
  Does TP 93 [.agg cx.toArray] w fun r w'=>∃b,r= .bool b∧(b=true→CF 9 n t ks)∧Ext w w':=by
 have hkl:=ae ks
 obtain⟨pk,ck,pd,cd,rfl,_,_,hK,_⟩:=hx.openV
 refine do1 Tryz.func93 ?_
 have he:Evo (fun _=>True) w w:=Evo.refl w
 refine jA 2 rfl ?_
 have hs1:=he.size
 refine bx rfl ?_
 rintro _ w1 ⟨rfl,hb1,e1⟩
 refine jD 6 rfl<|ld rfl hb1 rfl ?_
 refine cl rfl (aj (s:=8) (by decide)) ?_
 rintro v2 w2 ⟨rfl,e2⟩
 refine jD 5 rfl<|WL.q rfl (r_gtr rfl rfl)<|jC 2 rfl<|WL.qg rfl rfl rfl rfl (r_leq rfl rfl)<|jD 6 rfl ?_
 refine WL.q rfl (r_muli rfl rfl rfl (by omega) (by omega)) ?_
 refine WL.q rfl (r_subi rfl rfl rfl (by omega) (by omega)) ?_
 refine jD 5 rfl ?_
 replace hb1:=hb1.mono e2
 refine ld rfl hb1 rfl<|WL.q rfl (r_geq rfl rfl)<|jC 2 rfl<|lg rfl rfl rfl hb1 rfl<|WL.qg rfl rfl rfl rfl (r_leq rfl rfl)<|jC 3 rfl ?_
 replace hK:=(hK.mono e1).mono e2
 replace hUT:=(hUT.mono e1).mono e2
 replace hx:=(hx.mono e1).mono e2
 refine WC.seq<|WC.regionD (tt [0,1,2,3,4,5,6,7,8,9,10,11,12,13,14,15,16,17,18,19,20,21,22,23,24,25,26,27,28]) (Ext _) mixed (by kernel_rfl) (Ext.drew _) ?_
 refine jE 3 rfl<|bl rfl rfl rfl hb1 rfl<|jE 1 rfl ?_
 refine WD.qg rfl rfl rfl rfl (fun _ hS=>r_shl rfl rfl (by decide)) ?_
 refine WD.qg rfl rfl rfl rfl (fun _ hS=>r_cvInt Fo.h rfl) ?_
 refine jE 1 rfl ?_
 refine WD.qg rfl rfl rfl rfl (fun _ hS=>r_shr rfl rfl (by decide)) ?_
 refine WD.qg rfl rfl rfl rfl (fun _ hS=>r_cvInt Fo.h rfl) ?_
 refine jE 1 rfl<|bl rfl rfl rfl hb1 rfl ?_
 refine WD.qg rfl rfl rfl rfl (fun _ hS=>r_neq rfl rfl) ?_
 refine jE 2 rfl ?_
 refine WD.qc rfl rfl rfl rfl (fun hc=>fun _ hS=>r_move rfl) ?_
 refine WD.qc rfl rfl rfl rfl (fun hc=>fun _ hS=>r_not (cnd_of hc)) ?_
 refine WD.qc rfl rfl rfl rfl (fun hc=>fun _ hS=>r_move (cnd_of hc)) ?_
 refine WD.qcc rfl rfl rfl rfl (fun hc hx=>fun _ hS=>r_fieldAddr rfl Fo.h) ?_
 refine WD.qcc rfl rfl rfl rfl (fun hc hx=>fun _ hS=>r_load Fb.h (cnd_and hc hx) hS (hb1.get rfl)) ?_
 refine WD.qcc rfl rfl rfl rfl (fun hc hx=>fun _ hS=>r_move rfl) ?_
 refine WD.qcc rfl rfl rfl rfl (fun hc hx=>fun _ hS=>r_shl (cnd_and hc hx) (cnd_and hc hx) (by decide)) ?_
 refine WD.qcc rfl rfl rfl rfl (fun hc hx=>fun _ hS=>r_move rfl) ?_
 refine WD.qcc rfl rfl rfl rfl (fun hc hx=>fun _ hS=>r_shr (cnd_and hc hx) (cnd_and hc hx) (by decide)) ?_
 refine WD.qcc rfl rfl rfl rfl (fun hc hx=>fun _ hS=>r_fieldAddr rfl Fo.h) ?_
 refine WD.qcc rfl rfl rfl rfl (fun hc hx=>fun _ hS=>r_load Fb.h (cnd_and hc hx) hS (hb1.get rfl)) ?_
 refine WD.qcc rfl rfl rfl rfl (fun hc hx=>fun _ hS=>r_neq (cnd_and hc hx) (cnd_and hc hx)) ?_
 refine WD.qc rfl rfl rfl rfl (fun hc=>fun _ hS=>r_and (cnd_of hc) rfl (fun h=>by first|(simp[*];done)|(exfalso;simp at h;done)|(simp_all;done))) ?_
 refine WD.q rfl (fun _ hS=>r_or rfl rfl (fun h=>beq_iff_eq.2 h)) ?_
 refine WD.nil ?_
 refine WC.cond rfl ?_ ?_
 ·exact bN
 ·intro h2
  have h3:=r9 (E:=min (64-8 * 8:Int).toNat IntKind.u64.bits) (F:=min (64-8 * 8:Int).toNat IntKind.i64.bits) (by decide) (by decide) (bne_eq_false_iff_eq.1 (Bool.or_eq_false_iff.1 h2).1)
  obtain⟨h4,h5⟩:=h3
  refine jB 5 rfl ?_
  replace hb1:=hb1.mono (Ext.drew _)
  refine ld rfl hb1 rfl<|jD 51 rfl<|jA 3 rfl<|ld rfl hb1 rfl<|WL.q rfl (r_eql rfl rfl)<|jC 2 rfl<|WC.ret ?_
  replace he:=((he.then e1).then e2).then (Ext.drew _)
  exact fin1 rfl ⟨_,rfl,fun _=>bR (by omega) (by omega) (by omega) (by omega) (by omega) (by omega) (by omega) (by omega) h5 (by omega) (by omega) (by omega) (by omega) (by omega),he⟩
theorem qy{A:Nat→Prop}{n:Nat}{t:List UInt8}{ks:List V}{o:Int}{d:List V}{cx:List Value}{w:World}(hx:ag A w (.mk 10 n t ks o d) cx)(hv:ad ks≤100000)(hUT:UT w)(ht:t.length≤131072):
  Does TP 93 [.agg cx.toArray] w fun r w'=>∃b,r= .bool b∧(b=true→CF 10 n t ks)∧Ext w w':=by
 have hkl:=ae ks
 obtain⟨pk,ck,pd,cd,rfl,_,_,hK,_⟩:=hx.openV
 refine do1 Tryz.func93 ?_
 have he:Evo (fun _=>True) w w:=Evo.refl w
 refine jA 2 rfl ?_
 have hs1:=he.size
 refine bx rfl ?_
 rintro _ w1 ⟨rfl,hb1,e1⟩
 refine jD 6 rfl<|ld rfl hb1 rfl ?_
 refine cl rfl (aj (s:=4) (by decide)) ?_
 rintro v2 w2 ⟨rfl,e2⟩
 refine jD 5 rfl<|WL.q rfl (r_gtr rfl rfl)<|jC 2 rfl<|WL.qg rfl rfl rfl rfl (r_leq rfl rfl)<|jD 6 rfl ?_
 refine WL.q rfl (r_muli rfl rfl rfl (by omega) (by omega)) ?_
 refine WL.q rfl (r_subi rfl rfl rfl (by omega) (by omega)) ?_
 refine jD 5 rfl ?_
 replace hb1:=hb1.mono e2
 refine ld rfl hb1 rfl<|WL.q rfl (r_geq rfl rfl)<|jC 2 rfl<|lg rfl rfl rfl hb1 rfl<|WL.qg rfl rfl rfl rfl (r_leq rfl rfl)<|jC 3 rfl ?_
 replace hK:=(hK.mono e1).mono e2
 replace hUT:=(hUT.mono e1).mono e2
 replace hx:=(hx.mono e1).mono e2
 refine WC.seq<|WC.regionD (tt [0,1,2,3,4,5,6,7,8,9,10,11,12,13,14,15,16,17,18,19,20,21,22,23,24,25,26,27,28]) (Ext _) mixed (by kernel_rfl) (Ext.drew _) ?_
 refine jE 19 rfl<|bl rfl rfl rfl hb1 rfl<|jE 1 rfl ?_
 refine WD.qg rfl rfl rfl rfl (fun _ hS=>r_shl rfl rfl (by decide)) ?_
 refine jE 1 rfl ?_
 refine WD.qg rfl rfl rfl rfl (fun _ hS=>r_shr rfl rfl (by decide)) ?_
 refine jE 1 rfl<|bl rfl rfl rfl hb1 rfl ?_
 refine WD.qg rfl rfl rfl rfl (fun _ hS=>r_neq rfl rfl) ?_
 refine jE 2 rfl<|WD.nil ?_
 refine WC.cond rfl ?_ ?_
 ·exact bN
 ·intro h2
  have h3:=j5 (E:=min (64-8 * 4:Int).toNat IntKind.u64.bits) (F:=min (64-8 * 4:Int).toNat IntKind.u64.bits) (by decide) (by decide) (bne_eq_false_iff_eq.1 h2)
  exact fj
theorem rM{A:Nat→Prop}{n:Nat}{t:List UInt8}{ks:List V}{o:Int}{d:List V}{cx:List Value}{w:World}(hx:ag A w (.mk 11 n t ks o d) cx)(hv:ad ks≤100000)(hUT:UT w)(ht:t.length≤131072):
  Does TP 93 [.agg cx.toArray] w fun r w'=>∃b,r= .bool b∧(b=true→CF 11 n t ks)∧Ext w w':=by
 have hkl:=ae ks
 obtain⟨pk,ck,pd,cd,rfl,_,_,hK,_⟩:=hx.openV
 refine do1 Tryz.func93 ?_
 have he:Evo (fun _=>True) w w:=Evo.refl w
 refine jA 2 rfl ?_
 have hs1:=he.size
 refine bx rfl ?_
 rintro _ w1 ⟨rfl,hb1,e1⟩
 refine jD 6 rfl<|ld rfl hb1 rfl ?_
 refine cl rfl (aj (s:=8) (by decide)) ?_
 rintro v2 w2 ⟨rfl,e2⟩
 refine jD 5 rfl<|WL.q rfl (r_gtr rfl rfl)<|jC 2 rfl<|WL.qg rfl rfl rfl rfl (r_leq rfl rfl)<|jD 6 rfl ?_
 refine WL.q rfl (r_muli rfl rfl rfl (by omega) (by omega)) ?_
 refine WL.q rfl (r_subi rfl rfl rfl (by omega) (by omega)) ?_
 refine jD 5 rfl ?_
 replace hb1:=hb1.mono e2
 refine ld rfl hb1 rfl<|WL.q rfl (r_geq rfl rfl)<|jC 2 rfl<|lg rfl rfl rfl hb1 rfl<|WL.qg rfl rfl rfl rfl (r_leq rfl rfl)<|jC 3 rfl ?_
 exact f8
theorem rY{A:Nat→Prop}{n:Nat}{t:List UInt8}{ks:List V}{o:Int}{d:List V}{cx:List Value}{w:World}(hx:ag A w (.mk 12 n t ks o d) cx)(hv:ad ks≤100000)(hUT:UT w)(ht:t.length≤131072):
  Does TP 93 [.agg cx.toArray] w fun r w'=>∃b,r= .bool b∧(b=true→CF 12 n t ks)∧Ext w w':=by
 have hkl:=ae ks
 obtain⟨pk,ck,pd,cd,rfl,_,_,hK,_⟩:=hx.openV
 refine do1 Tryz.func93 ?_
 have he:Evo (fun _=>True) w w:=Evo.refl w
 refine jA 2 rfl ?_
 have hs1:=he.size
 refine bx rfl ?_
 rintro _ w1 ⟨rfl,hb1,e1⟩
 refine jD 6 rfl<|ld rfl hb1 rfl ?_
 refine cl rfl (aj (s:=4) (by decide)) ?_
 rintro v2 w2 ⟨rfl,e2⟩
 refine jD 5 rfl<|WL.q rfl (r_gtr rfl rfl)<|jC 2 rfl<|WL.qg rfl rfl rfl rfl (r_leq rfl rfl)<|jD 6 rfl ?_
 refine WL.q rfl (r_muli rfl rfl rfl (by omega) (by omega)) ?_
 refine WL.q rfl (r_subi rfl rfl rfl (by omega) (by omega)) ?_
 refine jD 5 rfl ?_
 replace hb1:=hb1.mono e2
 refine ld rfl hb1 rfl<|WL.q rfl (r_geq rfl rfl)<|jC 2 rfl<|lg rfl rfl rfl hb1 rfl<|WL.qg rfl rfl rfl rfl (r_leq rfl rfl)<|jC 3 rfl ?_
 replace hK:=(hK.mono e1).mono e2
 replace hUT:=(hUT.mono e1).mono e2
 replace hx:=(hx.mono e1).mono e2
 refine WC.seq<|WC.regionD (tt [0,1,2,3,4,5,6,7,8,9,10,11,12,13,14,15,16,17,18,19,20,21,22,23,24,25,26,27,28]) (Ext _) mixed (by kernel_rfl) (Ext.drew _) ?_
 refine jE 19 rfl<|bl rfl rfl rfl hb1 rfl<|jE 1 rfl ?_
 refine WD.qg rfl rfl rfl rfl (fun _ hS=>r_shl rfl rfl (by decide)) ?_
 refine jE 1 rfl ?_
 refine WD.qg rfl rfl rfl rfl (fun _ hS=>r_shr rfl rfl (by decide)) ?_
 refine jE 1 rfl<|bl rfl rfl rfl hb1 rfl ?_
 refine WD.qg rfl rfl rfl rfl (fun _ hS=>r_neq rfl rfl) ?_
 refine jE 2 rfl<|WD.nil ?_
 refine WC.cond rfl ?_ ?_
 ·exact bN
 ·intro h2
  have h3:=j5 (E:=min (64-8 * 4:Int).toNat IntKind.u64.bits) (F:=min (64-8 * 4:Int).toNat IntKind.u64.bits) (by decide) (by decide) (bne_eq_false_iff_eq.1 h2)
  exact fj
theorem rI{A:Nat→Prop}{n:Nat}{t:List UInt8}{ks:List V}{o:Int}{d:List V}{cx:List Value}{w:World}(hx:ag A w (.mk 13 n t ks o d) cx)(hv:ad ks≤100000)(hUT:UT w)(ht:t.length≤131072):
  Does TP 93 [.agg cx.toArray] w fun r w'=>∃b,r= .bool b∧(b=true→CF 13 n t ks)∧Ext w w':=by
 have hkl:=ae ks
 obtain⟨pk,ck,pd,cd,rfl,_,_,hK,_⟩:=hx.openV
 refine do1 Tryz.func93 ?_
 have he:Evo (fun _=>True) w w:=Evo.refl w
 refine jA 2 rfl ?_
 have hs1:=he.size
 refine bx rfl ?_
 rintro _ w1 ⟨rfl,hb1,e1⟩
 refine jD 6 rfl<|ld rfl hb1 rfl ?_
 refine cl rfl (aj (s:=8) (by decide)) ?_
 rintro v2 w2 ⟨rfl,e2⟩
 refine jD 5 rfl<|WL.q rfl (r_gtr rfl rfl)<|jC 2 rfl<|WL.qg rfl rfl rfl rfl (r_leq rfl rfl)<|jD 6 rfl ?_
 refine WL.q rfl (r_muli rfl rfl rfl (by omega) (by omega)) ?_
 refine WL.q rfl (r_subi rfl rfl rfl (by omega) (by omega)) ?_
 refine jD 5 rfl ?_
 replace hb1:=hb1.mono e2
 refine ld rfl hb1 rfl<|WL.q rfl (r_geq rfl rfl)<|jC 2 rfl<|lg rfl rfl rfl hb1 rfl<|WL.qg rfl rfl rfl rfl (r_leq rfl rfl)<|jC 3 rfl ?_
 exact f8
theorem rE{A:Nat→Prop}{n:Nat}{t:List UInt8}{ks:List V}{o:Int}{d:List V}{cx:List Value}{w:World}(hx:ag A w (.mk 14 n t ks o d) cx)(hv:ad ks≤100000)(hUT:UT w)(ht:t.length≤131072)(hn:n=0):
  Does TP 93 [.agg cx.toArray] w fun r w'=>∃b,r= .bool b∧(b=true→CF 14 n t ks)∧Ext w w':=by
 have hkl:=ae ks
 obtain⟨pk,ck,pd,cd,rfl,_,_,hK,_⟩:=hx.openV
 refine do1 Tryz.func93 ?_
 have he:Evo (fun _=>True) w w:=Evo.refl w
 refine jA 2 rfl ?_
 have hs1:=he.size
 refine bx rfl ?_
 rintro _ w1 ⟨rfl,hb1,e1⟩
 refine jD 6 rfl<|ld rfl hb1 rfl ?_
 refine cl rfl (aj (s:=16) (by decide)) ?_
 rintro v2 w2 ⟨rfl,e2⟩
 refine jD 5 rfl<|WL.q rfl (r_gtr rfl rfl)<|jC 2 rfl<|WL.qg rfl rfl rfl rfl (r_leq rfl rfl)<|jD 4 rfl<|jA 4 rfl ?_
 replace hb1:=hb1.mono e2
 refine ld rfl hb1 rfl<|jD 26 rfl<|ld rfl hb1 rfl<|WL.q rfl (r_lens Fb.h rfl)<|WL.q rfl (r_eql rfl rfl)<|jC 2 rfl<|WC.ret ?_
 exact me
theorem rZ{A:Nat→Prop}{n:Nat}{t:List UInt8}{ks:List V}{o:Int}{d:List V}{cx:List Value}{w:World}(hx:ag A w (.mk 15 n t ks o d) cx)(hv:ad ks≤100000)(hUT:UT w)(ht:t.length≤131072):
  Does TP 93 [.agg cx.toArray] w fun r w'=>∃b,r= .bool b∧(b=true→CF 15 n t ks)∧Ext w w':=by
 have hkl:=ae ks
 obtain⟨pk,ck,pd,cd,rfl,_,_,hK,_⟩:=hx.openV
 refine do1 Tryz.func93 ?_
 have he:Evo (fun _=>True) w w:=Evo.refl w
 refine jA 2 rfl ?_
 have hs1:=he.size
 refine bx rfl ?_
 rintro _ w1 ⟨rfl,hb1,e1⟩
 refine jD 6 rfl<|ld rfl hb1 rfl ?_
 refine cl rfl (aj (s:=4) (by decide)) ?_
 rintro v2 w2 ⟨rfl,e2⟩
 refine jD 5 rfl<|WL.q rfl (r_gtr rfl rfl)<|jC 2 rfl<|WL.qg rfl rfl rfl rfl (r_leq rfl rfl)<|jD 6 rfl ?_
 refine WL.q rfl (r_muli rfl rfl rfl (by omega) (by omega)) ?_
 refine WL.q rfl (r_subi rfl rfl rfl (by omega) (by omega)) ?_
 refine jD 5 rfl ?_
 replace hb1:=hb1.mono e2
 refine ld rfl hb1 rfl<|WL.q rfl (r_geq rfl rfl)<|jC 2 rfl<|lg rfl rfl rfl hb1 rfl<|WL.qg rfl rfl rfl rfl (r_leq rfl rfl)<|jC 3 rfl ?_
 replace hK:=(hK.mono e1).mono e2
 replace hUT:=(hUT.mono e1).mono e2
 replace hx:=(hx.mono e1).mono e2
 refine WC.seq<|WC.regionD (tt [0,1,2,3,4,5,6,7,8,9,10,11,12,13,14,15,16,17,18,19,20,21,22,23,24,25,26,27,28]) (Ext _) mixed (by kernel_rfl) (Ext.drew _) ?_
 refine jE 19 rfl<|bl rfl rfl rfl hb1 rfl<|jE 1 rfl ?_
 refine WD.qg rfl rfl rfl rfl (fun _ hS=>r_shl rfl rfl (by decide)) ?_
 refine jE 1 rfl ?_
 refine WD.qg rfl rfl rfl rfl (fun _ hS=>r_shr rfl rfl (by decide)) ?_
 refine jE 1 rfl<|bl rfl rfl rfl hb1 rfl ?_
 refine WD.qg rfl rfl rfl rfl (fun _ hS=>r_neq rfl rfl) ?_
 refine jE 2 rfl<|WD.nil ?_
 refine WC.cond rfl ?_ ?_
 ·exact bN
 ·intro h2
  have h3:=j5 (E:=min (64-8 * 4:Int).toNat IntKind.u64.bits) (F:=min (64-8 * 4:Int).toNat IntKind.u64.bits) (by decide) (by decide) (bne_eq_false_iff_eq.1 h2)
  refine jB 5 rfl ?_
  replace hb1:=hb1.mono (Ext.drew _)
  refine ld rfl hb1 rfl<|jD 17 rfl<|ld rfl hb1 rfl<|WL.q rfl (r_leq rfl rfl)<|jC 1 rfl ?_
  refine WL.qc rfl rfl rfl rfl (fun hc=>r_fieldAddr rfl Fo.h) ?_
  refine WL.qc rfl rfl rfl rfl (fun hc=>r_load Fb.h (cnd_of hc) (Ext.refl _) (hb1.get rfl)) ?_
  refine WL.qc rfl rfl rfl rfl (fun hc=>r_lss (cnd_of hc) rfl) ?_
  refine WL.qc rfl rfl rfl rfl (fun hc=>r_move (cnd_of hc)) ?_
  refine WL.qcc rfl rfl rfl rfl (fun hc hx=>r_fieldAddr rfl Fo.h) ?_
  refine WL.qcc rfl rfl rfl rfl (fun hc hx=>r_load Fb.h (cnd_and hc hx) (Ext.refl _) (hb1.get rfl)) ?_
  refine WL.qcc rfl rfl rfl rfl (fun hc hx=>r_gtr (cnd_and hc hx) rfl) ?_
  refine WL.qc rfl rfl rfl rfl (fun hc=>r_or (cnd_of hc) rfl (fun h=>by first|(simp[*];done)|(exfalso;simp at h;done)|(simp_all;done))) ?_
  refine WL.q rfl (r_and rfl rfl (fun h=>beq_iff_eq.2 h)) ?_
  refine jC 2 rfl<|WC.ret ?_
  replace he:=((he.then e1).then e2).then (Ext.drew _)
  exact fZ
theorem qP{A:Nat→Prop}{n:Nat}{t:List UInt8}{ks:List V}{o:Int}{d:List V}{cx:List Value}{w:World}(hx:ag A w (.mk 16 n t ks o d) cx)(hv:ad ks≤100000)(hUT:UT w)(ht:t.length≤131072):
  Does TP 93 [.agg cx.toArray] w fun r w'=>∃b,r= .bool b∧(b=true→CF 16 n t ks)∧Ext w w':=by
 have hkl:=ae ks
 obtain⟨pk,ck,pd,cd,rfl,_,_,hK,_⟩:=hx.openV
 refine do1 Tryz.func93 ?_
 have he:Evo (fun _=>True) w w:=Evo.refl w
 refine jA 2 rfl ?_
 have hs1:=he.size
 refine bx rfl ?_
 rintro _ w1 ⟨rfl,hb1,e1⟩
 refine jD 6 rfl<|ld rfl hb1 rfl ?_
 refine cl rfl (aj (s:=8) (by decide)) ?_
 rintro v2 w2 ⟨rfl,e2⟩
 refine jD 5 rfl<|WL.q rfl (r_gtr rfl rfl)<|jC 2 rfl<|WL.qg rfl rfl rfl rfl (r_leq rfl rfl)<|jD 6 rfl ?_
 refine WL.q rfl (r_muli rfl rfl rfl (by omega) (by omega)) ?_
 refine WL.q rfl (r_subi rfl rfl rfl (by omega) (by omega)) ?_
 refine jD 5 rfl ?_
 replace hb1:=hb1.mono e2
 refine ld rfl hb1 rfl<|WL.q rfl (r_geq rfl rfl)<|jC 2 rfl<|lg rfl rfl rfl hb1 rfl<|WL.qg rfl rfl rfl rfl (r_leq rfl rfl)<|jC 3 rfl ?_
 exact f8
theorem qw{A:Nat→Prop}{n:Nat}{t:List UInt8}{ks:List V}{o:Int}{d:List V}{cx:List Value}{w:World}(hx:ag A w (.mk 17 n t ks o d) cx)(hv:ad ks≤100000)(hUT:UT w)(ht:t.length≤131072)(hn:n=0):
  Does TP 93 [.agg cx.toArray] w fun r w'=>∃b,r= .bool b∧(b=true→CF 17 n t ks)∧Ext w w':=by
 have hkl:=ae ks
 obtain⟨pk,ck,pd,cd,rfl,_,_,hK,_⟩:=hx.openV
 refine do1 Tryz.func93 ?_
 have he:Evo (fun _=>True) w w:=Evo.refl w
 refine jA 2 rfl ?_
 have hs1:=he.size
 refine bx rfl ?_
 rintro _ w1 ⟨rfl,hb1,e1⟩
 refine jD 6 rfl<|ld rfl hb1 rfl ?_
 refine cl rfl (aj (s:=16) (by decide)) ?_
 rintro v2 w2 ⟨rfl,e2⟩
 refine jD 5 rfl<|WL.q rfl (r_gtr rfl rfl)<|jC 2 rfl<|WL.qg rfl rfl rfl rfl (r_leq rfl rfl)<|jD 4 rfl<|jA 4 rfl ?_
 replace hb1:=hb1.mono e2
 refine ld rfl hb1 rfl<|jD 29 rfl<|ld rfl hb1 rfl<|WL.q rfl (r_lens Fb.h rfl)<|WL.q rfl (r_eql rfl rfl)<|jC 2 rfl<|WC.ret ?_
 exact me
theorem qX{A:Nat→Prop}{n:Nat}{t:List UInt8}{ks:List V}{o:Int}{d:List V}{cx:List Value}{w:World}(hx:ag A w (.mk 18 n t ks o d) cx)(hv:ad ks≤100000)(hUT:UT w)(ht:t.length≤131072)(hn:n=0):
  Does TP 93 [.agg cx.toArray] w fun r w'=>∃b,r= .bool b∧(b=true→CF 18 n t ks)∧Ext w w':=by
 have hkl:=ae ks
 obtain⟨pk,ck,pd,cd,rfl,_,_,hK,_⟩:=hx.openV
 refine do1 Tryz.func93 ?_
 have he:Evo (fun _=>True) w w:=Evo.refl w
 refine jA 2 rfl ?_
 have hs1:=he.size
 refine bx rfl ?_
 rintro _ w1 ⟨rfl,hb1,e1⟩
 refine jD 6 rfl<|ld rfl hb1 rfl ?_
 refine cl rfl (aj (s:= -1) (by decide)) ?_
 rintro v2 w2 ⟨rfl,e2⟩
 refine jD 5 rfl<|WL.q rfl (r_gtr rfl rfl)<|jD 7 rfl<|jA 4 rfl ?_
 replace hb1:=hb1.mono e2
 refine ld rfl hb1 rfl<|jD 51 rfl<|jA 3 rfl<|ld rfl hb1 rfl<|WL.q rfl (r_eql rfl rfl)<|jC 2 rfl<|WC.ret ?_
 replace he:=(he.then e1).then e2
 exact fZ
theorem qU{A:Nat→Prop}{n:Nat}{t:List UInt8}{ks:List V}{o:Int}{d:List V}{cx:List Value}{w:World}(hx:ag A w (.mk 19 n t ks o d) cx)(hv:ad ks≤100000)(hUT:UT w)(ht:t.length≤131072)(hn:n=0):
  Does TP 93 [.agg cx.toArray] w fun r w'=>∃b,r= .bool b∧(b=true→CF 19 n t ks)∧Ext w w':=by
 have hkl:=ae ks
 obtain⟨pk,ck,pd,cd,rfl,_,_,hK,_⟩:=hx.openV
 refine do1 Tryz.func93 ?_
 have he:Evo (fun _=>True) w w:=Evo.refl w
 refine jA 2 rfl ?_
 have hs1:=he.size
 refine bx rfl ?_
 rintro _ w1 ⟨rfl,hb1,e1⟩
 refine jD 6 rfl<|ld rfl hb1 rfl ?_
 refine cl rfl (aj (s:= -1) (by decide)) ?_
 rintro v2 w2 ⟨rfl,e2⟩
 refine jD 5 rfl<|WL.q rfl (r_gtr rfl rfl)<|jD 7 rfl<|jA 4 rfl ?_
 replace hb1:=hb1.mono e2
 refine ld rfl hb1 rfl<|jD 35 rfl<|ld rfl hb1 rfl ?_
 replace hUT:=(hUT.mono e1).mono e2
 refine cl rfl (im hUT (by omega)) ?_
 rintro v3 w3 ⟨rfl,e3⟩
 refine jC 2 rfl<|WC.ret ?_
 replace he:=((he.then e1).then e2).then e3
 exact fin1 rfl ⟨_,rfl,fun hb=>bR (by omega) (by omega) (by omega) (by omega) (by omega) (by omega) (by omega) (by omega) (by omega) (by omega) (fun _=>hb) (by omega) (by omega) (by omega),he⟩
theorem rv{A:Nat→Prop}{n:Nat}{t:List UInt8}{ks:List V}{o:Int}{d:List V}{cx:List Value}{w:World}(hx:ag A w (.mk 20 n t ks o d) cx)(hv:ad ks≤100000)(hUT:UT w)(ht:t.length≤131072)(hn:n=0):
  Does TP 93 [.agg cx.toArray] w fun r w'=>∃b,r= .bool b∧(b=true→CF 20 n t ks)∧Ext w w':=by
 have hkl:=ae ks
 obtain⟨pk,ck,pd,cd,rfl,_,_,hK,_⟩:=hx.openV
 refine do1 Tryz.func93 ?_
 have he:Evo (fun _=>True) w w:=Evo.refl w
 refine jA 2 rfl ?_
 have hs1:=he.size
 refine bx rfl ?_
 rintro _ w1 ⟨rfl,hb1,e1⟩
 refine jD 6 rfl<|ld rfl hb1 rfl ?_
 refine cl rfl (aj (s:= -1) (by decide)) ?_
 rintro v2 w2 ⟨rfl,e2⟩
 refine jD 5 rfl<|WL.q rfl (r_gtr rfl rfl)<|jD 7 rfl<|jA 4 rfl ?_
 replace hb1:=hb1.mono e2
 refine ld rfl hb1 rfl<|jD 41 rfl<|ld rfl hb1 rfl ?_
 refine cl rfl (gE ht) ?_
 rintro v3 w3 ⟨zb,rfl,nA,e3⟩
 refine jC 2 rfl<|WC.ret ?_
 replace he:=((he.then e1).then e2).then e3
 exact fin1 rfl ⟨_,rfl,fun hb=>bR (by omega) (by omega) (by omega) (by omega) (by omega) (by omega) (by omega) (by omega) (by omega) (by omega) (by omega) (fun _=>nA hb) (by omega) (by omega),he⟩
theorem re{A:Nat→Prop}{n:Nat}{t:List UInt8}{ks:List V}{o:Int}{d:List V}{cx:List Value}{w:World}(hx:ag A w (.mk 21 n t ks o d) cx)(hv:ad ks≤100000)(hUT:UT w)(ht:t.length≤131072)(hn:n=0):
  Does TP 93 [.agg cx.toArray] w fun r w'=>∃b,r= .bool b∧(b=true→CF 21 n t ks)∧Ext w w':=by
 have hkl:=ae ks
 obtain⟨pk,ck,pd,cd,rfl,_,_,hK,_⟩:=hx.openV
 refine do1 Tryz.func93 ?_
 have he:Evo (fun _=>True) w w:=Evo.refl w
 refine jA 2 rfl ?_
 have hs1:=he.size
 refine bx rfl ?_
 rintro _ w1 ⟨rfl,hb1,e1⟩
 refine jD 6 rfl<|ld rfl hb1 rfl ?_
 refine cl rfl (aj (s:= -1) (by decide)) ?_
 rintro v2 w2 ⟨rfl,e2⟩
 refine jD 5 rfl<|WL.q rfl (r_gtr rfl rfl)<|jD 7 rfl<|jA 4 rfl ?_
 replace hb1:=hb1.mono e2
 refine ld rfl hb1 rfl<|jD 51 rfl<|jA 3 rfl<|ld rfl hb1 rfl<|WL.q rfl (r_eql rfl rfl)<|jC 2 rfl<|WC.ret ?_
 replace he:=(he.then e1).then e2
 exact fZ
theorem ry{A:Nat→Prop}{n:Nat}{t:List UInt8}{ks:List V}{o:Int}{d:List V}{cx:List Value}{w:World}(hx:ag A w (.mk 22 n t ks o d) cx)(hv:ad ks≤100000)(hUT:UT w)(ht:t.length≤131072)(hn:n=0):
  Does TP 93 [.agg cx.toArray] w fun r w'=>∃b,r= .bool b∧(b=true→CF 22 n t ks)∧Ext w w':=by
 have hkl:=ae ks
 obtain⟨pk,ck,pd,cd,rfl,_,_,hK,_⟩:=hx.openV
 refine do1 Tryz.func93 ?_
 have he:Evo (fun _=>True) w w:=Evo.refl w
 refine jA 2 rfl ?_
 have hs1:=he.size
 refine bx rfl ?_
 rintro _ w1 ⟨rfl,hb1,e1⟩
 refine jD 6 rfl<|ld rfl hb1 rfl ?_
 refine cl rfl (aj (s:= -1) (by decide)) ?_
 rintro v2 w2 ⟨rfl,e2⟩
 refine jD 5 rfl<|WL.q rfl (r_gtr rfl rfl)<|jD 7 rfl<|jA 4 rfl ?_
 replace hb1:=hb1.mono e2
 refine ld rfl hb1 rfl<|jD 47 rfl<|ld rfl hb1 rfl<|jC 1 rfl ?_
 refine WL.q rfl (r_rem (by decide) rfl rfl) ?_
 refine WL.q rfl (r_eql rfl rfl)<|jC 2 rfl<|WC.ret ?_
 replace he:=(he.then e1).then e2
 exact fin1 rfl ⟨_,rfl,fun hb=>bR (by omega) (by omega) (by omega) (by omega) (by omega) (by omega) (by omega) (by omega) (by omega) (by omega) (by omega) (by omega) (fun _=>by have h9:=eq_of_beq hb;have h8:(ks.length:Int).tmod 2=(ks.length:Int)%2:=Int.tmod_eq_emod_of_nonneg (by omega);rw[h8]at h9;omega) (by omega),he⟩
theorem rN{A:Nat→Prop}{n:Nat}{t:List UInt8}{ks:List V}{o:Int}{d:List V}{cx:List Value}{w:World}(hx:ag A w (.mk 23 n t ks o d) cx)(hv:ad ks≤100000)(hUT:UT w)(ht:t.length≤131072)(hn:n=0):
  Does TP 93 [.agg cx.toArray] w fun r w'=>∃b,r= .bool b∧(b=true→CF 23 n t ks)∧Ext w w':=by
 have hkl:=ae ks
 obtain⟨pk,ck,pd,cd,rfl,_,_,hK,_⟩:=hx.openV
 refine do1 Tryz.func93 ?_
 have he:Evo (fun _=>True) w w:=Evo.refl w
 refine jA 2 rfl ?_
 have hs1:=he.size
 refine bx rfl ?_
 rintro _ w1 ⟨rfl,hb1,e1⟩
 refine jD 6 rfl<|ld rfl hb1 rfl ?_
 refine cl rfl (aj (s:= -1) (by decide)) ?_
 rintro v2 w2 ⟨rfl,e2⟩
 refine jD 5 rfl<|WL.q rfl (r_gtr rfl rfl)<|jD 7 rfl<|jA 4 rfl ?_
 replace hb1:=hb1.mono e2
 refine ld rfl hb1 rfl<|jD 52 rfl<|WL.q rfl (r_loadAgg Fo.h rfl (Ext.refl _) hb1.at (hn:=rfl)) ?_
 replace hx:=(hx.mono e1).mono e2
 refine cl rfl (gz hx hv) ?_
 rintro v3 w3 ⟨zb,rfl,nA,e3⟩
 refine jC 2 rfl<|WC.ret ?_
 replace he:=((he.then e1).then e2).then e3
 exact fin1 rfl ⟨_,rfl,fun hb=>bR (by omega) (by omega) (by omega) (by omega) (by omega) (by omega) (by omega) (by omega) (by omega) (by omega) (by omega) (by omega) (by omega) (fun _=>nA hb),he⟩
theorem cE{A:Nat→Prop}{k:Int}{n:Nat}{t:List UInt8}{ks:List V}{o:Int}{d:List V}{cx:List Value}{w:World}(hx:ag A w (.mk k n t ks o d) cx)(hv:ad ks≤100000)(hUT:UT w)(ht:t.length≤131072)(h0:0≤k)(h1:k≤23)(hn:k=0∨k=14∨17≤k→n=0):
  Does TP 93 [.agg cx.toArray] w fun r w'=>∃b,r= .bool b∧(b=true→CF k n t ks)∧Ext w w':=by
 rcases(show k=0∨k=1∨k=2∨k=3∨k=4∨k=5∨k=6∨k=7∨k=8∨k=9∨k=10∨k=11∨k=12∨k=13∨k=14∨k=15∨k=16∨k=17∨k=18∨k=19∨k=20∨k=21∨k=22∨k=23 by omega)with rfl|rfl|rfl|rfl|rfl|rfl|rfl|rfl|rfl|rfl|rfl|rfl|rfl|rfl|rfl|rfl|rfl|rfl|rfl|rfl|rfl|rfl|rfl|rfl
 ·exact sg hx hv hUT ht (hn (by omega))
 ·exact r6 hx hv hUT ht
 ·exact r5 hx hv hUT ht
 ·exact sj hx hv hUT ht
 ·exact sn hx hv hUT ht
 ·exact sl hx hv hUT ht
 ·exact su hx hv hUT ht
 ·exact si hx hv hUT ht
 ·exact sz hx hv hUT ht
 ·exact sq hx hv hUT ht
 ·exact qy hx hv hUT ht
 ·exact rM hx hv hUT ht
 ·exact rY hx hv hUT ht
 ·exact rI hx hv hUT ht
 ·exact rE hx hv hUT ht (hn (by omega))
 ·exact rZ hx hv hUT ht
 ·exact qP hx hv hUT ht
 ·exact qw hx hv hUT ht (hn (by omega))
 ·exact qX hx hv hUT ht (hn (by omega))
 ·exact qU hx hv hUT ht (hn (by omega))
 ·exact rv hx hv hUT ht (hn (by omega))
 ·exact re hx hv hUT ht (hn (by omega))
 ·exact ry hx hv hUT ht (hn (by omega))
 ·exact rN hx hv hUT ht (hn (by omega))
end Go.Proofs.LL
