/- Own laws of frames, operations and loops, and contracts of functions of the program. Conditions: those that each theorem states. -/
import Derived.Test.YtdgbmbjkbmpcbaaGreatDoorV37
set_option linter.all false
set_option maxRecDepth 20000
namespace Go.Proofs.LL
open Go Go.Proofs Go.RowKit
set_option maxHeartbeats 4000000
attribute [local irreducible] RunOp WL WC WDL WT WX
theorem fg{A:Prop}(h:A:=by
 intro hc
 refine jA 4 rfl<|WC.ret ?_
 replace he:=he.then e1
 exact fin1 rfl ⟨false,rfl,fun h=>(by cases h),he⟩):A:=h
def oh(x:V):Prop:=∀(A:Nat→Prop) (cx:List Value) (w:World),ag A w x cx→VF x→ah x≤100000→
 Does TP 91 [.agg cx.toArray] w fun r w'=>∃z,r= .bool z∧(z=true→SY x)∧Ext w w'
def eV(ks:List V)(i:Nat):Prop:=∀a,2 * a<i→keyK (aq ks (2 * a)).kind∧∀b,b<a→same (aG (aq ks (2 * b))) (aG (aq ks (2 * a)))=false
theorem eV.odd{ks:List V}{i:Nat}(h:eV ks i)(ho:i%2=1):eV ks (i+1):=fun a ha=>h a (by omega)
theorem eV.even{ks:List V}{i:Nat}(h:eV ks i)(ho:i%2=0)(hk:keyK (aq ks i).kind)(hd:∀b,2 * b<i→same (aG (aq ks (2 * b))) (aG (aq ks i))=false):eV ks (i+1):=fun a ha=>by
 rcases Nat.lt_or_ge (2 * a) i with h1|h1
 ·exact h a h1
 ·obtain rfl:i=2 * a:=by omega
  exact⟨hk,fun b hb=>hd b (by omega)⟩
theorem ij{A:Nat→Prop}{w:World}{x:V}{c:List Value}(hv:VF x)(hk:keyK x.kind)(hR:ag A w x c):∃k n t o d,x= .mk k n t [] o d∧ag A w (.mk k n t [] o d) c:=by
 have hn:=hv.kidsNil (by unfold keyK at hk;omega)
 obtain⟨k,n,t,ks,o,d⟩:=x
 simp only[V.kids]at hn
 subst hn
 exact⟨k,n,t,o,d,rfl,hR⟩
theorem dE{k:Int}{n:Nat}{t:List UInt8}{o:Int}{d:List V}:ah (aG (.mk k n t [] o d))=ah (.mk k n t [] o d):=by
 rw[aG,dB];split<;>rw[ah,ah]
theorem oB{i z:Nat}(h:i%2=z):((i:Int)).tmod 2=(z:Int):=by
 rw[Int.tmod_eq_emod_of_nonneg (by omega)];omega
theorem ob{k:Int}{n:Nat}{t:List UInt8}{ks:List V}{o:Int}{d:List V}(hks:∀x∈ks,oh x):oh (.mk k n t ks o d):=by
 intro A cx w hx hF hv
 obtain⟨pk,ck,pd,cd,rfl,_,_,hK,hD⟩:=hx.openV
 rw[ah]at hv
 have hkl:=ae ks
 have hF0:=hF
 rw[VF]at hF
 obtain⟨_,_,_,_,_,_,hk1000,_,_,hFk,_⟩:=hF
 rcases Decidable.em (k=23)with hk|hk
 ·rcases Nat.eq_zero_or_pos ks.length with h0|h0
  ·refine do1 Tryz.func91 ?_
   have he:Evo (fun _=>True) w w:=Evo.refl w
   refine jA 2 rfl ?_
   have hs1:=he.size
   refine bx rfl ?_
   rintro _ w1 ⟨rfl,hb1,e1⟩
   refine jC 2 rfl<|jA 4 rfl<|ld rfl hb1 rfl<|jC 1 rfl<|WL.q rfl (r_gtr rfl rfl)<|jC 1 rfl ?_
   refine WL.qc rfl rfl rfl rfl (fun hc=>r_fieldAddr rfl Fo.h) ?_
   refine WL.qc rfl rfl rfl rfl (fun hc=>r_load Fb.h (cnd_of hc) (Ext.refl _) (hb1.get rfl)) ?_
   refine WL.qc rfl rfl rfl rfl (fun hc=>r_eql (cnd_of hc) rfl) ?_
   refine WL.q rfl (r_or rfl rfl (fun h=>beq_iff_eq.2 h)) ?_
   refine jC 1 rfl ?_
   refine WL.qc rfl rfl rfl rfl (fun hc=>r_fieldAddr rfl Fo.h) ?_
   refine WL.qc rfl rfl rfl rfl (fun hc=>r_load Fb.h (cnd_of hc) (Ext.refl _) (hb1.get rfl)) ?_
   refine WL.qc rfl rfl rfl rfl (fun hc=>r_eql (cnd_of hc) rfl) ?_
   refine WL.q rfl (r_or rfl rfl (fun h=>beq_iff_eq.2 h)) ?_
   refine jC 1 rfl ?_
   refine WL.qc rfl rfl rfl rfl (fun hc=>r_fieldAddr rfl Fo.h) ?_
   refine WL.qc rfl rfl rfl rfl (fun hc=>r_load Fb.h (cnd_of hc) (Ext.refl _) (hb1.get rfl)) ?_
   refine WL.qc rfl rfl rfl rfl (fun hc=>r_eql (cnd_of hc) rfl) ?_
   refine WL.q rfl (r_or rfl rfl (fun h=>beq_iff_eq.2 h)) ?_
   refine jC 1 rfl ?_
   refine WL.qc rfl rfl rfl rfl (fun hc=>r_fieldAddr rfl Fo.h) ?_
   refine WL.qc rfl rfl rfl rfl (fun hc=>r_load Fb.h (cnd_of hc) (Ext.refl _) (hb1.get rfl)) ?_
   refine WL.qc rfl rfl rfl rfl (fun hc=>r_eql (cnd_of hc) rfl) ?_
   refine WL.q rfl (r_or rfl rfl (fun h=>beq_iff_eq.2 h)) ?_
   refine WL.nil ?_
   refine WC.cond rfl ?_ ?_
   ·exact fg
   ·intro hc
    refine WC.skip<|jA 4 rfl<|ld rfl hb1 rfl<|WL.q rfl (r_cmp (r_eql rfl rfl) (beqT (hk)))<|WL.nil<|jA 4 rfl<|ld rfl hb1 rfl<|jC 1 rfl ?_
    refine WL.q rfl (r_cmp (r_gtr rfl rfl) (decide_eq_false (by(omega)))) ?_
    refine jC 24 rfl<|WC.ret ?_
    replace he:=he.then e1
    exact fin1 rfl ⟨false,rfl,fun h=>(by cases h),he⟩
  ·obtain⟨b,o1,c0,rfl,_,hA0,l0,hR0⟩:=hK.kid h0
   rcases hf0:aq ks 0 with⟨k0,n0,t0,ks0,oo0,d0⟩
   rw[hf0]at hR0
   obtain⟨pk0,ck0,pd0,cd0,rfl,_,_,_,_⟩:=hR0.openV
   rcases hab:kX k0 with _|_
   ·refine do1 Tryz.func91 ?_
    have he:Evo (fun _=>True) w w:=Evo.refl w
    refine jA 2 rfl ?_
    have hs1:=he.size
    refine bx rfl ?_
    rintro _ w1 ⟨rfl,hb1,e1⟩
    refine jC 2 rfl<|jA 4 rfl<|ld rfl hb1 rfl<|jC 1 rfl<|WL.q rfl (r_gtr rfl rfl)<|jC 1 rfl ?_
    refine WL.qc rfl rfl rfl rfl (fun hc=>r_fieldAddr rfl Fo.h) ?_
    refine WL.qc rfl rfl rfl rfl (fun hc=>r_load Fb.h (cnd_of hc) (Ext.refl _) (hb1.get rfl)) ?_
    refine WL.qc rfl rfl rfl rfl (fun hc=>r_eql (cnd_of hc) rfl) ?_
    refine WL.q rfl (r_or rfl rfl (fun h=>beq_iff_eq.2 h)) ?_
    refine jC 1 rfl ?_
    refine WL.qc rfl rfl rfl rfl (fun hc=>r_fieldAddr rfl Fo.h) ?_
    refine WL.qc rfl rfl rfl rfl (fun hc=>r_load Fb.h (cnd_of hc) (Ext.refl _) (hb1.get rfl)) ?_
    refine WL.qc rfl rfl rfl rfl (fun hc=>r_eql (cnd_of hc) rfl) ?_
    refine WL.q rfl (r_or rfl rfl (fun h=>beq_iff_eq.2 h)) ?_
    refine jC 1 rfl ?_
    refine WL.qc rfl rfl rfl rfl (fun hc=>r_fieldAddr rfl Fo.h) ?_
    refine WL.qc rfl rfl rfl rfl (fun hc=>r_load Fb.h (cnd_of hc) (Ext.refl _) (hb1.get rfl)) ?_
    refine WL.qc rfl rfl rfl rfl (fun hc=>r_eql (cnd_of hc) rfl) ?_
    refine WL.q rfl (r_or rfl rfl (fun h=>beq_iff_eq.2 h)) ?_
    refine jC 1 rfl ?_
    refine WL.qc rfl rfl rfl rfl (fun hc=>r_fieldAddr rfl Fo.h) ?_
    refine WL.qc rfl rfl rfl rfl (fun hc=>r_load Fb.h (cnd_of hc) (Ext.refl _) (hb1.get rfl)) ?_
    refine WL.qc rfl rfl rfl rfl (fun hc=>r_eql (cnd_of hc) rfl) ?_
    refine WL.q rfl (r_or rfl rfl (fun h=>beq_iff_eq.2 h)) ?_
    refine WL.nil ?_
    refine WC.cond rfl ?_ ?_
    ·exact fg
    ·intro hc
     refine WC.skip<|jA 4 rfl<|ld rfl hb1 rfl<|WL.q rfl (r_cmp (r_eql rfl rfl) (beqT (hk)))<|WL.nil<|jA 4 rfl<|ld rfl hb1 rfl<|jC 1 rfl ?_
     refine WL.q rfl (r_cmp (r_gtr rfl rfl) (decide_eq_true (by(omega)))) ?_
     refine jC 2 rfl<|LL.lg rfl rfl rfl hb1 rfl ?_
     refine WL.qg rfl rfl rfl rfl (r_idx Fo.h rfl rfl rfl (by first|omega|(simp;done)|(simp;omega))) ?_
     refine jC 1 rfl ?_
     replace hA0:=hA0.mono e1
     refine WL.qg rfl rfl rfl rfl (r_load Fb.h rfl (Ext.refl _) (hA0.get (j:=0) rfl)) ?_
     refine WL.lg rfl rfl rfl rfl (l_do Fb.h rfl (bW hab)) ?_
     rintro v2 w2 ⟨rfl,e2⟩
     refine jC 17 rfl<|WC.ret ?_
     replace he:=(he.then e1).then e2
     exact fin1 rfl ⟨false,rfl,fun h=>(by cases h),he⟩
   ·rcases Nat.eq_zero_or_pos d0.length with hd0|hd0
    ·refine do1 Tryz.func91 ?_
     have he:Evo (fun _=>True) w w:=Evo.refl w
     refine jA 2 rfl ?_
     have hs1:=he.size
     refine bx rfl ?_
     rintro _ w1 ⟨rfl,hb1,e1⟩
     refine jC 2 rfl<|jA 4 rfl<|ld rfl hb1 rfl<|jC 1 rfl<|WL.q rfl (r_gtr rfl rfl)<|jC 1 rfl ?_
     refine WL.qc rfl rfl rfl rfl (fun hc=>r_fieldAddr rfl Fo.h) ?_
     refine WL.qc rfl rfl rfl rfl (fun hc=>r_load Fb.h (cnd_of hc) (Ext.refl _) (hb1.get rfl)) ?_
     refine WL.qc rfl rfl rfl rfl (fun hc=>r_eql (cnd_of hc) rfl) ?_
     refine WL.q rfl (r_or rfl rfl (fun h=>beq_iff_eq.2 h)) ?_
     refine jC 1 rfl ?_
     refine WL.qc rfl rfl rfl rfl (fun hc=>r_fieldAddr rfl Fo.h) ?_
     refine WL.qc rfl rfl rfl rfl (fun hc=>r_load Fb.h (cnd_of hc) (Ext.refl _) (hb1.get rfl)) ?_
     refine WL.qc rfl rfl rfl rfl (fun hc=>r_eql (cnd_of hc) rfl) ?_
     refine WL.q rfl (r_or rfl rfl (fun h=>beq_iff_eq.2 h)) ?_
     refine jC 1 rfl ?_
     refine WL.qc rfl rfl rfl rfl (fun hc=>r_fieldAddr rfl Fo.h) ?_
     refine WL.qc rfl rfl rfl rfl (fun hc=>r_load Fb.h (cnd_of hc) (Ext.refl _) (hb1.get rfl)) ?_
     refine WL.qc rfl rfl rfl rfl (fun hc=>r_eql (cnd_of hc) rfl) ?_
     refine WL.q rfl (r_or rfl rfl (fun h=>beq_iff_eq.2 h)) ?_
     refine jC 1 rfl ?_
     refine WL.qc rfl rfl rfl rfl (fun hc=>r_fieldAddr rfl Fo.h) ?_
     refine WL.qc rfl rfl rfl rfl (fun hc=>r_load Fb.h (cnd_of hc) (Ext.refl _) (hb1.get rfl)) ?_
     refine WL.qc rfl rfl rfl rfl (fun hc=>r_eql (cnd_of hc) rfl) ?_
     refine WL.q rfl (r_or rfl rfl (fun h=>beq_iff_eq.2 h)) ?_
     refine WL.nil ?_
     refine WC.cond rfl ?_ ?_
     ·exact fg
     ·intro hc
      simp only[Bool.or_eq_false_iff,decide_eq_false_iff_not,beq_eq_false_iff_ne,ne_eq]at hc
      obtain⟨⟨⟨⟨q1,q2⟩,q3⟩,q4⟩,q5⟩:=hc
      refine WC.skip<|jA 4 rfl<|ld rfl hb1 rfl<|WL.q rfl (r_cmp (r_eql rfl rfl) (beqT (hk)))<|WL.nil<|jA 4 rfl<|ld rfl hb1 rfl<|jC 1 rfl ?_
      refine WL.q rfl (r_cmp (r_gtr rfl rfl) (decide_eq_true (by(omega)))) ?_
      refine jC 2 rfl<|LL.lg rfl rfl rfl hb1 rfl ?_
      refine WL.qg rfl rfl rfl rfl (r_idx Fo.h rfl rfl rfl (by first|omega|(simp;done)|(simp;omega))) ?_
      refine jC 1 rfl ?_
      replace hA0:=hA0.mono e1
      refine WL.qg rfl rfl rfl rfl (r_load Fb.h rfl (Ext.refl _) (hA0.get (j:=0) rfl)) ?_
      refine WL.lg rfl rfl rfl rfl (l_do Fb.h rfl (bW hab)) ?_
      rintro v2 w2 ⟨rfl,e2⟩
      refine jC 3 rfl ?_
      replace hb1:=hb1.mono e2
      refine LL.lg rfl rfl rfl hb1 rfl ?_
      refine WL.qg rfl rfl rfl rfl (r_idx Fo.h rfl rfl rfl (by first|omega|(simp;done)|(simp;omega))) ?_
      refine jC 1 rfl ?_
      replace hA0:=hA0.mono e2
      refine WL.qg rfl rfl rfl rfl (r_load Fb.h rfl (Ext.refl _) (hA0.get (j:=5) rfl)) ?_
      refine jC 1 rfl ?_
      refine WL.qg rfl rfl rfl rfl (r_cmp (r_eql rfl rfl) (beqT (by(omega)))) ?_
      refine jC 3 rfl<|LL.lg rfl rfl rfl hb1 rfl ?_
      replace hK:=(hK.mono e1).mono e2
      refine WL.lg rfl rfl rfl rfl (l_do Fb.h rfl (fD hK hk1000)) ?_
      rintro v3 w3 ⟨z,rfl,nz,e3⟩
      refine jC 3 rfl<|WC.ret ?_
      have hdn:d=[]:=List.eq_nil_of_length_eq_zero (by omega)
      have h00:(aq ks 0).kind=k0∧(aq ks 0).desc=[]:=by rw[hf0];exact⟨rfl,List.eq_nil_of_length_eq_zero hd0⟩
      have fin:z=true→SY (.mk k n t ks o d):=fun hz=>by
       rw[SY]
       refine⟨hdn,by omega,fun _=>⟨fun e=>by rw[e]at h0;simp at h0,by rw[h00.1];exact kD hab,h00.2,nz hz⟩,fun h=>absurd hk h,fun h=>by omega⟩
      replace he:=((he.then e1).then e2).then e3
      exact fin1 rfl ⟨z,rfl,fin,he⟩
    ·refine do1 Tryz.func91 ?_
     have he:Evo (fun _=>True) w w:=Evo.refl w
     refine jA 2 rfl ?_
     have hs1:=he.size
     refine bx rfl ?_
     rintro _ w1 ⟨rfl,hb1,e1⟩
     refine jC 2 rfl<|jA 4 rfl<|ld rfl hb1 rfl<|jC 1 rfl<|WL.q rfl (r_gtr rfl rfl)<|jC 1 rfl ?_
     refine WL.qc rfl rfl rfl rfl (fun hc=>r_fieldAddr rfl Fo.h) ?_
     refine WL.qc rfl rfl rfl rfl (fun hc=>r_load Fb.h (cnd_of hc) (Ext.refl _) (hb1.get rfl)) ?_
     refine WL.qc rfl rfl rfl rfl (fun hc=>r_eql (cnd_of hc) rfl) ?_
     refine WL.q rfl (r_or rfl rfl (fun h=>beq_iff_eq.2 h)) ?_
     refine jC 1 rfl ?_
     refine WL.qc rfl rfl rfl rfl (fun hc=>r_fieldAddr rfl Fo.h) ?_
     refine WL.qc rfl rfl rfl rfl (fun hc=>r_load Fb.h (cnd_of hc) (Ext.refl _) (hb1.get rfl)) ?_
     refine WL.qc rfl rfl rfl rfl (fun hc=>r_eql (cnd_of hc) rfl) ?_
     refine WL.q rfl (r_or rfl rfl (fun h=>beq_iff_eq.2 h)) ?_
     refine jC 1 rfl ?_
     refine WL.qc rfl rfl rfl rfl (fun hc=>r_fieldAddr rfl Fo.h) ?_
     refine WL.qc rfl rfl rfl rfl (fun hc=>r_load Fb.h (cnd_of hc) (Ext.refl _) (hb1.get rfl)) ?_
     refine WL.qc rfl rfl rfl rfl (fun hc=>r_eql (cnd_of hc) rfl) ?_
     refine WL.q rfl (r_or rfl rfl (fun h=>beq_iff_eq.2 h)) ?_
     refine jC 1 rfl ?_
     refine WL.qc rfl rfl rfl rfl (fun hc=>r_fieldAddr rfl Fo.h) ?_
     refine WL.qc rfl rfl rfl rfl (fun hc=>r_load Fb.h (cnd_of hc) (Ext.refl _) (hb1.get rfl)) ?_
     refine WL.qc rfl rfl rfl rfl (fun hc=>r_eql (cnd_of hc) rfl) ?_
     refine WL.q rfl (r_or rfl rfl (fun h=>beq_iff_eq.2 h)) ?_
     refine WL.nil ?_
     refine WC.cond rfl ?_ ?_
     ·exact fg
     ·intro hc
      refine WC.skip<|jA 4 rfl<|ld rfl hb1 rfl<|WL.q rfl (r_cmp (r_eql rfl rfl) (beqT (hk)))<|WL.nil<|jA 4 rfl<|ld rfl hb1 rfl<|jC 1 rfl ?_
      refine WL.q rfl (r_cmp (r_gtr rfl rfl) (decide_eq_true (by(omega)))) ?_
      refine jC 2 rfl<|LL.lg rfl rfl rfl hb1 rfl ?_
      refine WL.qg rfl rfl rfl rfl (r_idx Fo.h rfl rfl rfl (by first|omega|(simp;done)|(simp;omega))) ?_
      refine jC 1 rfl ?_
      replace hA0:=hA0.mono e1
      refine WL.qg rfl rfl rfl rfl (r_load Fb.h rfl (Ext.refl _) (hA0.get (j:=0) rfl)) ?_
      refine WL.lg rfl rfl rfl rfl (l_do Fb.h rfl (bW hab)) ?_
      rintro v2 w2 ⟨rfl,e2⟩
      refine jC 3 rfl ?_
      replace hb1:=hb1.mono e2
      refine LL.lg rfl rfl rfl hb1 rfl ?_
      refine WL.qg rfl rfl rfl rfl (r_idx Fo.h rfl rfl rfl (by first|omega|(simp;done)|(simp;omega))) ?_
      refine jC 1 rfl ?_
      replace hA0:=hA0.mono e2
      refine WL.qg rfl rfl rfl rfl (r_load Fb.h rfl (Ext.refl _) (hA0.get (j:=5) rfl)) ?_
      refine jC 1 rfl ?_
      refine WL.qg rfl rfl rfl rfl (r_cmp (r_eql rfl rfl) (beqF (by(omega)))) ?_
      refine jC 8 rfl<|WC.ret ?_
      replace he:=(he.then e1).then e2
      exact fin1 rfl ⟨false,rfl,fun h=>(by cases h),he⟩
 ·refine do1 Tryz.func91 ?_
  have he:Evo (fun _=>True) w w:=Evo.refl w
  refine jA 2 rfl ?_
  have hs1:=he.size
  refine bx rfl ?_
  rintro _ w1 ⟨rfl,hb1,e1⟩
  refine jC 2 rfl<|jA 4 rfl<|ld rfl hb1 rfl<|jC 1 rfl<|WL.q rfl (r_gtr rfl rfl)<|jC 1 rfl ?_
  refine WL.qc rfl rfl rfl rfl (fun hc=>r_fieldAddr rfl Fo.h) ?_
  refine WL.qc rfl rfl rfl rfl (fun hc=>r_load Fb.h (cnd_of hc) (Ext.refl _) (hb1.get rfl)) ?_
  refine WL.qc rfl rfl rfl rfl (fun hc=>r_eql (cnd_of hc) rfl) ?_
  refine WL.q rfl (r_or rfl rfl (fun h=>beq_iff_eq.2 h)) ?_
  refine jC 1 rfl ?_
  refine WL.qc rfl rfl rfl rfl (fun hc=>r_fieldAddr rfl Fo.h) ?_
  refine WL.qc rfl rfl rfl rfl (fun hc=>r_load Fb.h (cnd_of hc) (Ext.refl _) (hb1.get rfl)) ?_
  refine WL.qc rfl rfl rfl rfl (fun hc=>r_eql (cnd_of hc) rfl) ?_
  refine WL.q rfl (r_or rfl rfl (fun h=>beq_iff_eq.2 h)) ?_
  refine jC 1 rfl ?_
  refine WL.qc rfl rfl rfl rfl (fun hc=>r_fieldAddr rfl Fo.h) ?_
  refine WL.qc rfl rfl rfl rfl (fun hc=>r_load Fb.h (cnd_of hc) (Ext.refl _) (hb1.get rfl)) ?_
  refine WL.qc rfl rfl rfl rfl (fun hc=>r_eql (cnd_of hc) rfl) ?_
  refine WL.q rfl (r_or rfl rfl (fun h=>beq_iff_eq.2 h)) ?_
  refine jC 1 rfl ?_
  refine WL.qc rfl rfl rfl rfl (fun hc=>r_fieldAddr rfl Fo.h) ?_
  refine WL.qc rfl rfl rfl rfl (fun hc=>r_load Fb.h (cnd_of hc) (Ext.refl _) (hb1.get rfl)) ?_
  refine WL.qc rfl rfl rfl rfl (fun hc=>r_eql (cnd_of hc) rfl) ?_
  refine WL.q rfl (r_or rfl rfl (fun h=>beq_iff_eq.2 h)) ?_
  refine WL.nil ?_
  refine WC.cond rfl ?_ ?_
  ·exact fg
  ·intro hc
   simp only[Bool.or_eq_false_iff,decide_eq_false_iff_not,beq_eq_false_iff_ne,ne_eq]at hc
   obtain⟨⟨⟨⟨q1,q2⟩,q3⟩,q4⟩,q5⟩:=hc
   have hdn:d=[]:=List.eq_nil_of_length_eq_zero (by omega)
   refine WC.skip<|jA 4 rfl<|ld rfl hb1 rfl<|WL.q rfl (r_cmp (r_eql rfl rfl) (beqF (hk)))<|WL.nil<|jA 2 rfl<|jA 4 rfl<|ld rfl hb1 rfl<|jC 3 rfl<|jA 1 rfl ?_
   replace hK:=hK.mono e1
   replace he:=he.then e1
   refine WC.loop2 (ι:=Nat) [(1,_),(2,_),(60,_),(61,_)] (fun i=>[(62,.int .i64 (i:Int))]) (fun i wi=>(∀j,j<i→SY (aq ks j))∧(k=22→eV ks i)∧i≤ks.length∧Ext w1 wi) (fun i=>ks.length-i) 0 sb sb (⟨fun j hj=>absurd hj (by omega),fun _ a ha=>absurd ha (by omega),Nat.zero_le _,Ext.refl _⟩) ?_
   intro i wi1 hh;obtain⟨qS,qK,ni,hE⟩:=hh
   rcases Nat.lt_or_ge i ks.length with qi|qi
   replace hK:=hK.mono hE
   ·obtain⟨b1,o1,c1,rfl,_,hA1,l1,hR1⟩:=hK.kid qi
    rcases hf1:aq ks i with⟨k1,n1,t1,ks1,oo1,d1⟩
    have hF1:=hFk.mem _ (ak qi)
    have hS1:=hks _ (ak qi)
    have hv1:=an (ak qi)
    rw[hf1]at hR1 hF1 hS1 hv1
    have hR2:=hR1
    obtain⟨pk1,ck1,pd1,cd1,rfl,_,_,_,_⟩:=hR1.openV
    have hT:=cq.mk hE
    have qT:SY (.mk k1 n1 t1 ks1 oo1 d1)→∀j,j<i+1→SY (aq ks j):=fun hq j hj=>by
     rcases Nat.lt_or_ge j i with h|h
     ·exact qS j h
     ·obtain rfl:j=i:=by omega
      rw[hf1];exact hq
    refine jA 2 rfl<|lT rfl rfl<|WL.nil<|jA 8 rfl<|ix rfl rfl rfl<|WL.q rfl (r_loadAgg Fo.h rfl (Ext.refl _) hA1 (hn:=rfl)) ?_
    replace he:=he.then hE
    have hs2:=he.size
    replace hb1:=hb1.mono hE
    have hx2b1:=hb1.lt
    refine al ?_
    rintro _ w2 ⟨rfl,hb2,e2⟩
    refine jC 1 rfl ?_
    refine WL.l0 (lsw rfl rfl hb2) ?_
    rintro _ w3 ⟨hb2,e3,hz3⟩
    refine WL.nil<|jA 3 rfl<|la rfl hb2 ?_
    replace hR2:=hR2.mono (e2.then e3)
    refine cl rfl (hS1 _ _ _ hR2 hF1 (by omega)) ?_
    rintro v4 w4 ⟨z,rfl,nz,e4⟩
    refine jC 2 rfl ?_
    refine WC.cond rfl ?_ ?_
    ·intro h2
     refine jA 4 rfl<|WC.ret ?_
     replace he:=(he.then (e2.then e3)).then e4
     exact fin1 rfl ⟨false,rfl,fun h=>(by cases h),he⟩
    ·intro h2
     have hSY:=nz (by simpa using h2)
     rcases Decidable.em (k=22)with hk2|hk2
     ·rcases Nat.mod_two_eq_zero_or_one i with hi2|hi2
      ·have hfi:(aq ks i).kind=k1:=by rw[hf1];rfl
       refine WC.skip<|jA 4 rfl ?_
       replace hb1:=(hb1.mono (e2.then e3)).mono e4
       refine ld rfl hb1 rfl<|WL.q rfl (r_cmp (r_neq rfl rfl) (bneF (hk2)))<|jC 2 rfl ?_
       refine WL.qg rfl rfl rfl rfl (r_rem (by decide) rfl rfl) ?_
       refine WL.qg rfl rfl rfl rfl (r_cmp (r_eql rfl rfl) (beqF (by(rw[oB hi2];decide)))) ?_
       refine jC 2 rfl<|jA 2 rfl<|jA 4 rfl ?_
       replace hb2:=hb2.mono e4
       refine ld rfl hb2 rfl ?_
       refine cl rfl (jo) ?_
       rintro v5 w5 ⟨rfl,e5⟩
       refine jC 2 rfl ?_
       refine WC.cond rfl ?_ ?_
       ·intro h3
        refine jA 4 rfl<|WC.ret ?_
        replace he:=((he.then (e2.then e3)).then e4).then e5
        exact fin1 rfl ⟨false,rfl,fun h=>(by cases h),he⟩
       ·intro h3
        have hkk:keyK k1:=kO (by simpa using h3)
        replace hR2:=(hR2.mono e4).mono e5
        obtain⟨kk1,kn1,kt1,ko1,kd1,hxe,hR3⟩:=ij hF1 hkk hR2
        refine WC.skip<|jA 5 rfl ?_
        replace hK:=((hK.mono (e2.then e3)).mono e4).mono e5
        replace hb1:=hb1.mono e5
        replace hA1:=((hA1.mono (e2.then e3)).mono e4).mono e5
        replace hT:=((hT.mono (e2.then e3)).mono e4).mono e5
        replace hb2:=hb2.mono e5
        replace he:=((he.then (e2.then e3)).then e4).then e5
        refine WC.loop2 (ι:=Nat) [(1,_),(2,_),(3,_),(4,_),(60,_),(61,_),(62,_)] (fun j=>[(5,.int .i64 (2 * (j:Int)))]) (fun j wi=>(∀b,b<j→same (aG (aq ks (2 * b))) (aG (.mk k1 n1 t1 ks1 oo1 d1))=false)∧Ext w5 wi) (fun j=>ks.length-j) 0 sb sb (⟨fun b hb=>absurd hb (by omega),Ext.refl _⟩) ?_
        intro j wi2 hh;obtain⟨qD,hE⟩:=hh
        rcases Nat.lt_or_ge (2 * j) i with qj|qj
        replace hK:=hK.mono hE
        ·obtain⟨c4,_,hA4,l4,hR4⟩:=hK.kidP (i:=2 * j) (by omega)
         obtain⟨kk4,kn4,kt4,ko4,kd4,hxe4,hR4⟩:=ij (hFk.mem _ (ak (by omega))) (qK hk2 j (by omega)).1 hR4
         have hv4:=an (ak (ks:=ks) (j:=2 * j) (by omega))
         refine jA 5 rfl<|lT rfl rfl<|WL.nil<|jA 2 rfl<|jA 2 rfl ?_
         replace hb1:=hb1.mono hE
         replace hA1:=hA1.mono hE
         replace hR2:=hR2.mono hE
         replace hT:=hT.mono hE
         replace hb2:=hb2.mono hE
         replace hR3:=hR3.mono hE
         refine WC.seq<|WC.regionD (tt [0,1,2,3,4,6]++ff [5,7,8]) (Ext _) mixed (by kernel_rfl) (Ext.drew _) ?_
         refine jE 1 rfl<|dl rfl hb1 rfl<|jE 1 rfl ?_
         refine WD.q rfl (fun _ hS=>r_idx Fo.h rfl rfl (show 2 * (j:Int)=((2 * j:Nat):Int) by omega) (by omega)) ?_
         refine WD.q rfl (fun _ hS=>r_loadAgg Fo.h rfl hS hA4 (hn:=l4)) ?_
         refine WD.q rfl (fun _ hS=>r_loadAgg Fo.h rfl hS hb2.at (hn:=by first|rfl|assumption)) ?_
         refine LL.cd rfl (eX (hR4.mono (Ext.drew _))) ?_
         rintro v6 w6 ⟨cs4,rfl,hR5,e6⟩
         refine⟨((Evo.drew _).then e6),?_⟩
         refine LL.cd rfl (eX ((hR3.mono (Ext.drew _)).mono e6)) ?_
         rintro v7 w7 ⟨cs5,rfl,hR6,e7⟩
         refine⟨(((Evo.drew _).then e6).then e7),?_⟩
         refine LL.cd rfl (ba (by rw[dE,← hxe4];omega) (hR5.mono e7) hR6) ?_
         rintro v8 w8 ⟨rfl,e8⟩
         refine⟨((((Evo.drew _).then e6).then e7).then e8),?_⟩
         refine WD.nil ?_
         refine WC.cond rfl ?_ ?_
         ·intro h5
          refine jA 4 rfl<|WC.ret ?_
          replace he:=((((he.then hE).then (Ext.drew _)).then e6).then e7).then e8
          exact fin1 rfl ⟨false,rfl,fun h=>(by cases h),he⟩
         ·intro h5
          refine WC.skip<|jA 2 rfl<|ai rfl rfl rfl<|jC 2 rfl ?_
          exact⟨j+1,sb,sb,⟨fun b hb=>by rcases Nat.lt_or_ge b j with h|h;exact qD b h;obtain rfl:b=j:=(by omega);rw[hxe4,hxe];exact h5,(((((hE.then (Ext.drew _)).then e6).then e7).then e8))⟩,by omega⟩
        ·refine jA 5 rfl<|lF rfl rfl<|WL.nil<|jA 1 rfl<|WC.exit<|jA 1 rfl<|ai rfl rfl rfl<|jC 2 rfl ?_
         replace hT:=hT.mono hE
         exact⟨i+1,sb,sb,⟨qT hSY,fun hk22=>(qK hk22).even hi2 (by rw[hfi];exact hkk) (fun b hb=>by rw[hf1];exact qD b (by omega)),qi,hT.evo⟩,by omega⟩
      ·refine WC.skip<|jA 4 rfl ?_
       replace hb1:=(hb1.mono (e2.then e3)).mono e4
       refine ld rfl hb1 rfl<|WL.q rfl (r_cmp (r_neq rfl rfl) (bneF (hk2)))<|jC 2 rfl ?_
       refine WL.qg rfl rfl rfl rfl (r_rem (by decide) rfl rfl) ?_
       refine WL.qg rfl rfl rfl rfl (r_cmp (r_eql rfl rfl) (beqT (by(rw[oB hi2];rfl)))) ?_
       refine jC 2 rfl<|jA 1 rfl<|WC.exit<|jA 1 rfl<|ai rfl rfl rfl<|jC 2 rfl ?_
       exact⟨i+1,sb,sb,⟨qT hSY,fun hk22=>(qK hk22).odd hi2,qi,(((hE.then (e2.then e3)).then e4))⟩,by omega⟩
     ·refine WC.skip<|jA 4 rfl ?_
      replace hb1:=(hb1.mono (e2.then e3)).mono e4
      refine ld rfl hb1 rfl<|WL.q rfl (r_cmp (r_neq rfl rfl) (bneT (hk2)))<|jC 6 rfl<|jA 1 rfl<|WC.exit<|jA 1 rfl<|ai rfl rfl rfl<|jC 2 rfl ?_
      exact⟨i+1,sb,sb,⟨qT hSY,fun hk22=>absurd hk22 hk2,qi,(((hE.then (e2.then e3)).then e4))⟩,by omega⟩
   ·have hin:i=ks.length:=by omega
    subst hin
    have fin:SY (.mk k n t ks o d):=by
     rw[SY]
     exact⟨hdn,by omega,fun h=>absurd h hk,fun _=>jW.of fun x hx=>by
      obtain⟨j,hj,rfl⟩:=bV hx
      exact qS j hj,fun h22 a ha=>qK h22 a ha⟩
    refine jA 2 rfl<|lF rfl rfl<|WL.nil<|jA 2 rfl<|WC.exit<|jA 4 rfl<|WC.ret ?_
    replace he:=he.then hE
    exact fin1 rfl ⟨true,rfl,fun _=>fin,he⟩
mutual
theorem oH:∀x:V,oh x
 | .mk k n t ks o d=>ob (oI ks)
theorem oI:∀l:List V,∀x∈l,oh x
 |[],x,hx=>by cases hx
 |a::r,x,hx=>by
  rcases List.mem_cons.1 hx with e|hx
  ·exact e▸oH a
  ·exact oI r x hx
end
theorem jM{A:Nat→Prop}{x:V}{cx:List Value}{w:World}(hx:ag A w x cx)(hUT:UT w):
  Does TP 64 [.agg cx.toArray] w fun r w'=>∃z,r= .bool z∧(z=true→VF x∧SY x∧ah x≤300)∧Ext w w':=by
 obtain⟨x0,x1,x2,x3,x4,x5,rfl⟩:=hx.six
 refine do1 Tryz.func64 ?_
 have he:Evo (fun _=>True) w w:=Evo.refl w
 refine jA 2 rfl ?_
 have hs1:=he.size
 refine bx rfl ?_
 rintro _ w1 ⟨rfl,hb1,e1⟩
 refine jD 4 rfl<|la rfl hb1 ?_
 replace hx:=hx.mono e1
 replace hUT:=hUT.mono e1
 refine cl rfl (dz hx hUT (by omega) (by omega)) ?_
 rintro v2 w2 ⟨z1,rfl,n1,e2⟩
 rcases z1 with _|_
 ·refine jC 11 rfl<|WC.ret ?_
  replace he:=(he.then e1).then e2
  exact fin1 rfl ⟨false,rfl,fun h=>(by cases h),he⟩
 ·obtain⟨hF,hc⟩:=n1 rfl
  rcases Decidable.em (ah x≤300)with h300|h300
  ·refine jC 1 rfl ?_
   replace hb1:=hb1.mono e2
   refine WL.qg rfl rfl rfl rfl (r_loadAgg Fo.h rfl (Ext.refl _) hb1.at (hn:=by first|rfl|assumption)) ?_
   replace hx:=hx.mono e2
   refine WL.lg rfl rfl rfl rfl (l_do Fb.h rfl (ow x _ _ _ hx (by omega))) ?_
   rintro v3 w3 ⟨rfl,e3⟩
   refine WL.qg rfl rfl rfl rfl (r_cmp (r_leq rfl rfl) (decide_eq_true (by(omega)))) ?_
   refine jC 2 rfl ?_
   replace hb1:=hb1.mono e3
   refine WL.qg rfl rfl rfl rfl (r_loadAgg Fo.h rfl (Ext.refl _) hb1.at (hn:=by first|rfl|assumption)) ?_
   replace hx:=hx.mono e3
   refine WL.lg rfl rfl rfl rfl (l_do Fb.h rfl (oH x _ _ _ hx hF (by omega))) ?_
   rintro v4 w4 ⟨z2,rfl,n2,e4⟩
   refine jC 3 rfl<|WC.ret ?_
   replace he:=(((he.then e1).then e2).then e3).then e4
   exact fin1 rfl ⟨z2,rfl,fun h=>⟨hF,n2 h,h300⟩,he⟩
  ·refine jC 1 rfl ?_
   replace hb1:=hb1.mono e2
   refine WL.qg rfl rfl rfl rfl (r_loadAgg Fo.h rfl (Ext.refl _) hb1.at (hn:=by first|rfl|assumption)) ?_
   replace hx:=hx.mono e2
   refine WL.lg rfl rfl rfl rfl (l_do Fb.h rfl (ow x _ _ _ hx (by omega))) ?_
   rintro v3 w3 ⟨rfl,e3⟩
   refine WL.qg rfl rfl rfl rfl (r_cmp (r_leq rfl rfl) (decide_eq_false (by(omega)))) ?_
   refine jC 7 rfl<|WC.ret ?_
   replace he:=((he.then e1).then e2).then e3
   exact fin1 rfl ⟨false,rfl,fun h=>(by cases h),he⟩
def fo(kk:Int)(l:List V):Prop:=b7 l∧bm l∧(∀x∈keysOf l,x.kind=kk)
theorem n7{kk:Int}{l:List V}(hkk:kk=19∨kk=20)(hF:VF (bk l))(hS:SY (bk l))(hk:∀j,2 * j<l.length→(aq l (2 * j)).kind=kk):fo kk l:=by
 have h0:l.length%2=0:=by
  have hq:=hF
  unfold bk at hq
  rw[VF]at hq
  exact hq.2.2.2.2.2.2.2.2.1.2.2.2.2.1 rfl
 have h1:∀x∈keysOf l,x.kind=kk:=fun x hx=>by
  obtain⟨i,hi,rfl⟩:=List.getElem_of_mem hx
  have hl:2 * i+1<l.length:=by
   rcases Nat.lt_or_ge (2 * i+1) l.length with h1|h1
   ·exact h1
   ·exfalso
    have h2:=keysOf_take i l
    rw[List.take_of_length_le (by omega)]at h2
    have h3:=congrArg List.length h2
    rw[List.length_take]at h3
    omega
  have h2:=keysOf_get i l hl
  rw[List.getElem?_eq_getElem hi]at h2
  rw[Option.some.inj h2,az (by omega)]
  exact hk i (by omega)
 refine⟨pt hF hS (fun x hx=>by rw[h1 x hx];exact hkk),?_,h1⟩
 have:=hF.trim
 unfold bk at this
 rw[dV]at this
 exact this.2.2
theorem dq(kk:Int):fo kk []:=⟨m8,by rw[bm];trivial,fun x hx=>by simp[keysOf]at hx⟩
theorem iE{A:Nat→Prop}{l:List V}{p:Option Addr}{c b o cc:Nat}{kk:Int}{w:World}(hkk:kk=19∨kk=20)(hK:aD A w l.length (.slice p l.length c) (aa A w l))(hI:At w b o [.int .i64 kk])(hUT:UT w):
  Does TP 37 [.slice p l.length c,.slice (some ⟨b,o,none⟩) 1 cc] w fun r w'=>∃z,r= .bool z∧(z=true→fo kk l)∧Ext w w':=by
 have hR:ag A w (bk l) [.int .i64 22,.int .u64 0,str [],.slice p l.length c,.int .i64 0,.slice none 0 0]:=ag.mkK hK
 rcases Nat.eq_zero_or_pos l.length with h0|h0
 ·have hl:l=[]:=List.eq_nil_of_length_eq_zero h0
  refine do1 Tryz.func37 ?_
  have he:Evo (fun _=>True) w w:=Evo.refl w
  refine jA 7 rfl<|WL.q rfl (r_bld (cs:=[_,_,_,_,_,_]) Fo.h rfl rfl) ?_
  have hs1:=he.size
  refine al ?_
  rintro _ w1 ⟨rfl,hb1,e1⟩
  refine WL.l0 (lsw rfl rfl hb1) ?_
  rintro _ w2 ⟨hb1,e2,hz2⟩
  refine jD 5 rfl ?_
  refine WL.q rfl (r_cmp (r_eql rfl rfl) (beqT (by(omega)))) ?_
  refine jC 16 rfl<|WC.ret ?_
  replace he:=he.then (e1.then e2)
  exact fin1 rfl ⟨true,rfl,fun _=>hl▸dq kk,he⟩
 ·refine do1 Tryz.func37 ?_
  have he:Evo (fun _=>True) w w:=Evo.refl w
  refine jA 7 rfl<|WL.q rfl (r_bld (cs:=[_,_,_,_,_,_]) Fo.h rfl rfl) ?_
  have hs1:=he.size
  refine al ?_
  rintro _ w1 ⟨rfl,hb1,e1⟩
  refine WL.l0 (lsw rfl rfl hb1) ?_
  rintro _ w2 ⟨hb1,e2,hz2⟩
  refine jD 5 rfl ?_
  refine WL.q rfl (r_cmp (r_eql rfl rfl) (beqF (by(omega)))) ?_
  refine jC 1 rfl ?_
  refine WL.qg rfl rfl rfl rfl (r_loadAgg Fo.h rfl (Ext.refl _) hb1.at (hn:=by first|rfl|assumption)) ?_
  replace hUT:=hUT.mono (e1.then e2)
  replace hR:=hR.mono (e1.then e2)
  refine WL.lg rfl rfl rfl rfl (l_do Fb.h rfl (jM hR hUT)) ?_
  rintro v3 w3 ⟨z1,rfl,n1,e3⟩
  rcases z1 with _|_
  ·refine jC 13 rfl<|WC.ret ?_
   replace he:=(he.then (e1.then e2)).then e3
   exact fin1 rfl ⟨false,rfl,fun h=>(by cases h),he⟩
  ·obtain⟨hF,hS,hc⟩:=n1 rfl
   have hF0:=hF
   unfold bk at hF0
   rw[VF]at hF0
   refine jC 1 rfl ?_
   replace hb1:=hb1.mono e3
   refine WL.qg rfl rfl rfl rfl (r_loadAgg Fo.h rfl (Ext.refl _) hb1.at (hn:=by first|rfl|assumption)) ?_
   refine jC 1 rfl ?_
   replace hI:=(hI.mono (e1.then e2)).mono e3
   replace hR:=hR.mono e3
   refine WL.lg rfl rfl rfl rfl (l_do Fb.h rfl (kh hR hF0.2.2.2.2.2.2.1 hI)) ?_
   rintro v4 w4 ⟨z2,rfl,n2,e4⟩
   rcases z2 with _|_
   ·refine jC 9 rfl<|WC.ret ?_
    replace he:=((he.then (e1.then e2)).then e3).then e4
    exact fin1 rfl ⟨false,rfl,fun h=>(by cases h),he⟩
   ·have hM:=n7 hkk hF hS (n2 rfl)
    refine jC 2 rfl ?_
    replace hb1:=hb1.mono e4
    refine WL.qg rfl rfl rfl rfl (r_loadAgg Fo.h rfl (Ext.refl _) hb1.at (hn:=by first|rfl|assumption)) ?_
    replace hR:=hR.mono e4
    refine WL.lg rfl rfl rfl rfl (l_do Fb.h rfl (rC _ _ _ _ hR (by omega))) ?_
    rintro v5 w5 ⟨z3,rfl,e5⟩
    refine jC 5 rfl<|WC.ret ?_
    replace he:=(((he.then (e1.then e2)).then e3).then e4).then e5
    exact fin1 rfl ⟨_,rfl,fun _=>hM,he⟩
def Fm(w:World)(fb:Nat):Prop:=∃s b,0≤s∧s<18446744073709551616∧Blk w fb [.int .u64 s,.bool b]
theorem Fm.mono{A:Nat→Prop}{w w':World}{fb:Nat}(h:Fm w fb)(e:Evo A w w')(hA:A fb:=by first|exact trivial|((try dsimp only[Nb]);omega)|assumption):Fm w' fb:=by
 obtain⟨s,b,h1,h2,h3⟩:=h
 exact⟨s,b,h1,h2,h3.mono e hA⟩
theorem Fm.lt{w:World}{fb:Nat}(h:Fm w fb):fb<w.heap.size:=by obtain⟨s,b,_,_,h⟩:=h;exact h.lt
theorem eI(z:Int):0≤IntKind.u64.wrap z∧IntKind.u64.wrap z<18446744073709551616:=by
 have:IntKind.u64.wrap z=z%18446744073709551616:=rfl
 rw[this];omega
theorem pC{s:Int}{n:Nat}(h1:0≤s)(h2:s<18446744073709551616)(hn:1≤n):∃k:Nat,k<n∧(IntKind.i64.wrap (s.fdiv (2^(min (33:Int).toNat IntKind.u64.bits)))).tmod (n:Int)=(k:Int):=by
 have e1:(2:Int)^(min (33:Int).toNat IntKind.u64.bits)=8589934592:=by decide
 rw[e1]
 have e2:s.fdiv 8589934592=s / 8589934592:=Int.fdiv_eq_ediv_of_nonneg _ (by omega)
 rw[e2,wrap_i64 (by omega) (by omega)]
 have e3:(s / 8589934592).tmod (n:Int)=(s / 8589934592)%(n:Int):=Int.tmod_eq_emod_of_nonneg (by omega)
 rw[e3]
 have h5:=Int.emod_nonneg (s / 8589934592) (show(n:Int)≠0 by omega)
 have h6:=Int.emod_lt_of_pos (s / 8589934592) (show 0<(n:Int) by omega)
 exact⟨((s / 8589934592)%(n:Int)).toNat,by omega,by omega⟩
theorem cT{fb n:Nat}{w:World}(hF:Fm w fb)(hn:1≤n)(hn2:n≤1000000):
  Does TP 32 [.pointer (some ⟨fb,0,none⟩),.int .i64 (n:Int)] w fun r w'=>(∃k:Nat,k<n∧r= .int .i64 (k:Int))∧Fm w' fb∧Evo (fun k=>k≠fb) w w':=by
 obtain⟨s,b,h1,h2,hB⟩:=hF
 cases b with
 |true=>
  refine do1 Tryz.func32 ?_
  refine jA 10 rfl<|ld rfl hB rfl<|jD 10 rfl<|WC.ret ?_
  exact fin1 rfl ⟨⟨0,by omega,rfl⟩,⟨s,true,h1,h2,hB⟩,ch⟩
 |false=>
  rcases Nat.lt_or_ge 1 n with h5|h5
  ·refine do1 Tryz.func32 ?_
   refine jA 10 rfl<|ld rfl hB rfl<|jC 2 rfl ?_
   refine WL.qg rfl rfl rfl rfl (r_cmp (r_leq rfl rfl) (decide_eq_false (by omega))) ?_
   refine jD 4 rfl<|jA 6 rfl<|ld rfl hB rfl<|WL.q rfl (r_mul rfl rfl)<|WL.q rfl (r_add rfl rfl)<|jC 2 rfl ?_
   refine WL.l0 (lst rfl rfl hB) ?_
   rintro _ w1 ⟨hB,e1,hz1⟩
   refine jD 6 rfl<|ld rfl hB rfl ?_
   refine WL.q rfl (r_shr rfl rfl (by decide)) ?_
   refine WL.q rfl (r_cvInt Fo.h rfl)<|jC 1 rfl ?_
   refine WL.q rfl (r_rem (by omega) rfl rfl) ?_
   refine jC 2 rfl<|WC.ret ?_
   obtain⟨k,hk,ek⟩:=pC (s:=IntKind.u64.wrap (IntKind.u64.wrap (s * 6364136223846793005)+1442695040888963407)) (n:=n) (eI _).1 (eI _).2 hn
   exact fin1 rfl ⟨⟨k,hk,congrArg (Value.int .i64) ek⟩,⟨_,false,(eI _).1,(eI _).2,hB⟩,ch⟩
  ·refine do1 Tryz.func32 ?_
   refine jA 10 rfl<|ld rfl hB rfl<|jC 2 rfl ?_
   refine WL.qg rfl rfl rfl rfl (r_cmp (r_leq rfl rfl) (decide_eq_true (by omega))) ?_
   refine jD 7 rfl<|WC.ret ?_
   exact fin1 rfl ⟨⟨0,by omega,rfl⟩,⟨s,false,h1,h2,hB⟩,ch⟩
theorem iu(n:Nat):∀(k m:Nat),m<k→(bigB n k)[k-1-m]?=some (UInt8.ofNat (n>>>(8 * m)))
 |0,m,h=>absurd h (by omega)
 |k+1,m,h=>by
  rcases Nat.lt_or_ge m k with h1|h1
  ·rw[bigB,show k+1-1-m=(k-1-m)+1 by omega,List.getElem?_cons_succ]
   exact iu n k m h1
  ·obtain rfl:m=k:=by omega
   rw[bigB,show m+1-1-m=0 by omega,List.getElem?_cons_zero]
theorem m4{u:Int}{m:Nat}(hu:0≤u)(hm:m≤7):IntKind.u8.wrap (u.fdiv (2^(min (8 * (m:Int)).toNat IntKind.u64.bits)))=((UInt8.ofNat (u.toNat>>>(8 * m))).toNat:Int):=by
 have e0:min (8 * (m:Int)).toNat IntKind.u64.bits=8 * m:=by
  have:IntKind.u64.bits=64:=rfl
  rw[this];omega
 rw[e0]
 obtain⟨n,rfl⟩:∃n:Nat,u=n:=⟨u.toNat,by omega⟩
 have e1:((n:Int)).fdiv (2^(8 * m))=((n / 2^(8 * m):Nat):Int):=by
  rw[Int.fdiv_eq_ediv_of_nonneg _ (by exact_mod_cast Nat.zero_le (2^(8 * m)))]
  push_cast;rfl
 rw[e1,Int.toNat_natCast,UInt8.toNat_ofNat',Nat.shiftRight_eq_div_pow]
 have e2:∀z:Nat,IntKind.u8.wrap (z:Int)=((z%2^8:Nat):Int):=fun z=>by
  have:IntKind.u8.wrap (z:Int)=(z:Int)%256:=rfl
  rw[this];omega
 exact e2 _
theorem aC{u:Int}{k:Nat}{w:World}(hu:0≤u)(hk:k≤8):
  Does TP 173 [.int .u64 u,.int .i64 (k:Int)] w fun r w'=>Own w.heap.size 5 1 w' r k (bc (bigB u.toNat k))∧Ext w w':=by
 have hbl:=bigB_length u.toNat k
 refine do1 Tryz.func173 ?_
 have he:Evo (fun b=>b<w.heap.size) w w:=Evo.refl w
 refine jA 12 rfl ?_
 refine WL.q rfl (r_subi rfl rfl rfl (by omega) (by omega)) ?_
 refine jD 3 rfl ?_
 refine WC.loop2 (ι:=(Nat×Value)) [(0,_),(4,_)] (fun i=>[(5,i.2),(6,.int .i64 ((i.1:Int)-1))]) (fun i wi=>Own w.heap.size 5 1 wi i.2 (k-i.1) (bc ((bigB u.toNat k).take (k-i.1)))∧i.1≤k∧Evo (fun b=>b<w.heap.size) w wi) (fun i=>i.1) (k,.slice none 0 0) sb sb (⟨by simpa using Own.nil _ _ _ _,Nat.le_refl _,Evo.refl _⟩) ?_
 intro i wi1 hh;obtain⟨hO,nil2,hE⟩:=hh
 obtain⟨m,sv⟩:=i
 dsimp only at hO nil2
 have hwi:=hE.size
 rcases Nat.eq_zero_or_pos m with hm|hm
 ·subst hm
  rw[Nat.sub_zero,List.take_of_length_le (by omega)]at hO
  refine jA 4 rfl ?_
  refine WL.q rfl (r_cmp (r_geq rfl rfl) (decide_eq_false (by omega))) ?_
  refine jD 2 rfl<|WC.exit<|jA 5 rfl<|WC.ret ?_
  replace he:=he.then hE
  exact fin1 rfl ⟨hO,he.weaken fun k hk _=>hk⟩
 ·obtain⟨j,rfl⟩:∃j,m=j+1:=⟨m-1,by omega⟩
  have hg:=iu u.toNat k j (by omega)
  have hlt:k-(j+1)<(bigB u.toNat k).length:=by omega
  rw[show k-1-j=k-(j+1) by omega,List.getElem?_eq_getElem hlt]at hg
  have htk:(bigB u.toNat k).take (k-j)=(bigB u.toNat k).take (k-(j+1))++[UInt8.ofNat (u.toNat>>>(8 * j))]:=by
   rw[show k-j=(k-(j+1))+1 by omega,← Option.some.inj hg,List.take_append_getElem]
  have hby:=m4 (m:=j) hu (by omega)
  refine jA 4 rfl ?_
  refine WL.q rfl (r_cmp (r_geq rfl rfl) (decide_eq_true (by omega))) ?_
  refine jD 3 rfl<|jA 6 rfl ?_
  refine WL.q rfl (r_muli (c:=8 * (j:Int)) rfl rfl (by omega) (by omega) (by omega)) ?_
  refine WL.q rfl (r_shr rfl rfl (by omega)) ?_
  refine WL.q rfl (r_cvIntE Fo.h rfl hby) ?_
  replace he:=he.then hE
  have hs1:=he.size
  refine WL.l rfl (ll [_]) ?_
  rintro _ w1 ⟨rfl,hb1,e1⟩
  replace hO:=hO.mono e1
  refine WL.l rfl (l_app Fo.h rfl rfl hO (Src.at Fb.h hb1.at rfl rfl) (by have:=e1.size;omega) (by simp only[maxLen];omega) (by omega)) ?_
  rintro v2 w2 ⟨hO,e2⟩
  refine jD 4 rfl ?_
  refine WL.q rfl (r_subi rfl rfl rfl (by omega) (by omega)) ?_
  refine jC 2 rfl ?_
  have hO2:Own w.heap.size 5 1 w2 v2 (k-j) (bc ((bigB u.toNat k).take (k-j))):=by
   rw[htk,aE,show k-j=(k-(j+1))+1 by omega];exact hO
  exact⟨(j,v2),sb,sb,⟨hO2,by omega,(((hE.then e1).then e2))⟩,(by show j<j+1;omega)⟩
end Go.Proofs.LL
