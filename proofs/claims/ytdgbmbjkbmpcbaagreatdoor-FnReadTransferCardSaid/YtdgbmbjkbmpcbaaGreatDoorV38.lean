/- Contracts of functions and own laws. Conditions: those that each theorem states. -/
import Derived.Test.YtdgbmbjkbmpcbaaGreatDoorV37
set_option linter.all false
set_option autoImplicit true
set_option relaxedAutoImplicit true
set_option maxRecDepth 20000
namespace Go.Proofs.LL
open Go Go.Proofs Go.RowKit
set_option maxHeartbeats 4000000
attribute [local irreducible] ar WL WC cq WT WX
theorem oq{A:Prop}(h:A:=by
 intro hc
 refine jA 4 rfl<|WC.ret ?_
 replace he:=he.t e1
 exact aw rfl ⟨false,rfl,fun h=>(by cases h),he⟩):A:=h
def A4(x:V):Prop:=∀(A:Nat→Prop) (cx:List Value) (w:World),aC A w x cx→VF x→aE x≤100000→
 ah TP 91 [.agg cx.toArray] w fun r w'=>∃z,r= .bool z∧(z=true→SY x)∧ay w w'
def m7(ks:List V)(i:Nat):Prop:=∀a,2 * a<i→dV (bA ks (2 * a)).kind∧∀b,b<a→same (cX (bA ks (2 * b))) (cX (bA ks (2 * a)))=false
theorem m7.odd(h:m7 ks i)(ho:i%2=1):m7 ks (i+1):=fun a ha=>h a (by omega)
theorem m7.even(h:m7 ks i)(ho:i%2=0)(hk:dV (bA ks i).kind)(hd:∀b,2 * b<i→same (cX (bA ks (2 * b))) (cX (bA ks i))=false):m7 ks (i+1):=fun a ha=>by
 rcases Nat.lt_or_ge (2 * a) i with h1|h1
 ·exact h a h1
 ·obtain rfl:i=2 * a:=by omega
  exact⟨hk,fun b hb=>hd b (by omega)⟩
theorem sL(hv:VF x)(hk:dV x.kind)(hR:aC A w x c):∃k n t o d,x= .mk k n t [] o d∧aC A w (.mk k n t [] o d) c:=by
 have hn:=hv.kidsNil (by unfold dV at hk;omega)
 obtain⟨k,n,t,ks,o,d⟩:=x
 simp only[V.kids]at hn
 subst hn
 exact⟨k,n,t,o,d,rfl,hR⟩
theorem lh{k:Int}{o:Int}:aE (cX (.mk k n t [] o d))=aE (.mk k n t [] o d):=by
 rw[cX,kO];split<;>rw[aE,aE]
theorem Cu{i z:Nat}(h:i%2=z):((i:Int)).tmod 2=(z:Int):=by
 rw[Int.tmod_eq_emod_of_nonneg (by omega)];omega
theorem BV{k:Int}{ks:List V}{o:Int}(hks:∀x∈ks,A4 x):A4 (.mk k n t ks o d):=by
 intro A cx w hx hF hv
 obtain⟨pk,ck,pd,cd,rfl,_,_,hK,hD⟩:=hx.openV
 rw[aE]at hv
 have hkl:=av ks
 have hF0:=hF
 rw[VF]at hF
 obtain⟨_,_,_,_,_,_,hk1000,_,_,hFk,_⟩:=hF
 rcases Decidable.em (k=23)with hk|hk
 ·rcases Nat.eq_zero_or_pos ks.length with h0|h0
  ·refine aR Tryz.func91 ?_
   have he:=XI w
   refine jA 2 rfl ?_
   have hs1:=he.s
   refine Hb rfl fun w1 hb1 e1=>?_
   refine jC 2 rfl<|jA 4 rfl<|ld rfl hb1 rfl<|jC 1 rfl<|Hq (aS rfl rfl)<|jC 1 rfl<|Hc rfl rfl (fun hc=>aa rfl Fo.h)<|Hk rfl rfl rfl hb1 rfl<|Hc rfl rfl (fun hc=>ak (au hc) rfl)<|Hq (cA rfl rfl (fun h=>beq_iff_eq.2 h))<|jC 1 rfl<|Hc rfl rfl (fun hc=>aa rfl Fo.h)<|Hk rfl rfl rfl hb1 rfl<|Hc rfl rfl (fun hc=>ak (au hc) rfl)<|Hq (cA rfl rfl (fun h=>beq_iff_eq.2 h))<|jC 1 rfl<|Hc rfl rfl (fun hc=>aa rfl Fo.h)<|Hk rfl rfl rfl hb1 rfl<|Hc rfl rfl (fun hc=>ak (au hc) rfl)<|Hq (cA rfl rfl (fun h=>beq_iff_eq.2 h))<|jC 1 rfl<|Hc rfl rfl (fun hc=>aa rfl Fo.h)<|Hk rfl rfl rfl hb1 rfl<|Hc rfl rfl (fun hc=>ak (au hc) rfl)<|Hq (cA rfl rfl (fun h=>beq_iff_eq.2 h))<|WL.nil<|WC.cond rfl ?_ ?_
   ·exact oq
   ·intro hc
    refine WC.skip<|jA 4 rfl<|ld rfl hb1 rfl<|Hq (ae (ak rfl rfl) (br (hk)))<|WL.nil<|jA 4 rfl<|ld rfl hb1 rfl<|jC 1 rfl<|Hq (ae (aS rfl rfl) (decide_eq_false (by(omega))))<|jC 24 rfl<|WC.ret ?_
    replace he:=he.t e1
    exact aw rfl ⟨false,rfl,fun h=>(by cases h),he⟩
  ·obtain⟨b,o1,c0,rfl,_,hA0,l0,hR0⟩:=hK.kid h0
   rcases hf0:bA ks 0 with⟨k0,n0,t0,ks0,oo0,d0⟩
   rw[hf0]at hR0
   obtain⟨pk0,ck0,pd0,cd0,rfl,_,_,_,_⟩:=hR0.openV
   rcases hab:yr k0 with _|_
   ·refine aR Tryz.func91 ?_
    have he:=XI w
    refine jA 2 rfl ?_
    have hs1:=he.s
    refine Hb rfl fun w1 hb1 e1=>?_
    refine jC 2 rfl<|jA 4 rfl<|ld rfl hb1 rfl<|jC 1 rfl<|Hq (aS rfl rfl)<|jC 1 rfl<|Hc rfl rfl (fun hc=>aa rfl Fo.h)<|Hk rfl rfl rfl hb1 rfl<|Hc rfl rfl (fun hc=>ak (au hc) rfl)<|Hq (cA rfl rfl (fun h=>beq_iff_eq.2 h))<|jC 1 rfl<|Hc rfl rfl (fun hc=>aa rfl Fo.h)<|Hk rfl rfl rfl hb1 rfl<|Hc rfl rfl (fun hc=>ak (au hc) rfl)<|Hq (cA rfl rfl (fun h=>beq_iff_eq.2 h))<|jC 1 rfl<|Hc rfl rfl (fun hc=>aa rfl Fo.h)<|Hk rfl rfl rfl hb1 rfl<|Hc rfl rfl (fun hc=>ak (au hc) rfl)<|Hq (cA rfl rfl (fun h=>beq_iff_eq.2 h))<|jC 1 rfl<|Hc rfl rfl (fun hc=>aa rfl Fo.h)<|Hk rfl rfl rfl hb1 rfl<|Hc rfl rfl (fun hc=>ak (au hc) rfl)<|Hq (cA rfl rfl (fun h=>beq_iff_eq.2 h))<|WL.nil<|WC.cond rfl ?_ ?_
    ·exact oq
    ·intro hc
     refine WC.skip<|jA 4 rfl<|ld rfl hb1 rfl<|Hq (ae (ak rfl rfl) (br (hk)))<|WL.nil<|jA 4 rfl<|ld rfl hb1 rfl<|jC 1 rfl<|Hq (ae (aS rfl rfl) (decide_eq_true (by(omega))))<|jC 2 rfl<|LL.lg rfl rfl rfl hb1 rfl<|Hg rfl rfl (bd Fo.h rfl rfl rfl)<|jC 1 rfl ?_
     replace hA0:=hA0.m e1
     refine Hg rfl rfl (ao Fb.h rfl Xr (hA0.get (j:=0) rfl))<|WL.lg rfl rfl rfl rfl (cD Fb.h rfl (ik hab)) ?_
     rintro v2 w2 ⟨rfl,e2⟩
     refine jC 17 rfl<|WC.ret ?_
     replace he:=(he.t e1).t e2
     exact aw rfl ⟨false,rfl,fun h=>(by cases h),he⟩
   ·rcases Nat.eq_zero_or_pos d0.length with hd0|hd0
    ·refine aR Tryz.func91 ?_
     have he:=XI w
     refine jA 2 rfl ?_
     have hs1:=he.s
     refine Hb rfl fun w1 hb1 e1=>?_
     refine jC 2 rfl<|jA 4 rfl<|ld rfl hb1 rfl<|jC 1 rfl<|Hq (aS rfl rfl)<|jC 1 rfl<|Hc rfl rfl (fun hc=>aa rfl Fo.h)<|Hk rfl rfl rfl hb1 rfl<|Hc rfl rfl (fun hc=>ak (au hc) rfl)<|Hq (cA rfl rfl (fun h=>beq_iff_eq.2 h))<|jC 1 rfl<|Hc rfl rfl (fun hc=>aa rfl Fo.h)<|Hk rfl rfl rfl hb1 rfl<|Hc rfl rfl (fun hc=>ak (au hc) rfl)<|Hq (cA rfl rfl (fun h=>beq_iff_eq.2 h))<|jC 1 rfl<|Hc rfl rfl (fun hc=>aa rfl Fo.h)<|Hk rfl rfl rfl hb1 rfl<|Hc rfl rfl (fun hc=>ak (au hc) rfl)<|Hq (cA rfl rfl (fun h=>beq_iff_eq.2 h))<|jC 1 rfl<|Hc rfl rfl (fun hc=>aa rfl Fo.h)<|Hk rfl rfl rfl hb1 rfl<|Hc rfl rfl (fun hc=>ak (au hc) rfl)<|Hq (cA rfl rfl (fun h=>beq_iff_eq.2 h))<|WL.nil<|WC.cond rfl ?_ ?_
     ·exact oq
     ·intro hc
      simp only[Bool.or_eq_false_iff,decide_eq_false_iff_not,beq_eq_false_iff_ne,ne_eq]at hc
      obtain⟨⟨⟨⟨q1,q2⟩,q3⟩,q4⟩,q5⟩:=hc
      refine WC.skip<|jA 4 rfl<|ld rfl hb1 rfl<|Hq (ae (ak rfl rfl) (br (hk)))<|WL.nil<|jA 4 rfl<|ld rfl hb1 rfl<|jC 1 rfl<|Hq (ae (aS rfl rfl) (decide_eq_true (by(omega))))<|jC 2 rfl<|LL.lg rfl rfl rfl hb1 rfl<|Hg rfl rfl (bd Fo.h rfl rfl rfl)<|jC 1 rfl ?_
      replace hA0:=hA0.m e1
      refine Hg rfl rfl (ao Fb.h rfl Xr (hA0.get (j:=0) rfl))<|WL.lg rfl rfl rfl rfl (cD Fb.h rfl (ik hab)) ?_
      rintro v2 w2 ⟨rfl,e2⟩
      refine jC 3 rfl ?_
      replace hb1:=hb1.m e2
      refine LL.lg rfl rfl rfl hb1 rfl<|Hg rfl rfl (bd Fo.h rfl rfl rfl)<|jC 1 rfl ?_
      replace hA0:=hA0.m e2
      refine Hg rfl rfl (ao Fb.h rfl Xr (hA0.get (j:=5) rfl))<|jC 1 rfl<|Hg rfl rfl (ae (ak rfl rfl) (br (by(omega))))<|jC 3 rfl<|LL.lg rfl rfl rfl hb1 rfl ?_
      replace hK:=(hK.m e1).m e2
      refine WL.lg rfl rfl rfl rfl (cD Fb.h rfl (ow hK hk1000)) ?_
      rintro v3 w3 ⟨z,rfl,nz,e3⟩
      refine jC 3 rfl<|WC.ret ?_
      have hdn:d=[]:=List.eq_nil_of_length_eq_zero (by omega)
      have h00:(bA ks 0).kind=k0∧(bA ks 0).desc=[]:=by rw[hf0];exact⟨rfl,List.eq_nil_of_length_eq_zero hd0⟩
      have fin:z=true→SY (.mk k n t ks o d):=fun hz=>by
       rw[SY]
       refine⟨hdn,by omega,fun _=>⟨fun e=>by rw[e]at h0;simp at h0,by rw[h00.1];exact xe hab,h00.2,nz hz⟩,fun h=>absurd hk h,fun h=>by omega⟩
      replace he:=((he.t e1).t e2).t e3
      exact aw rfl ⟨z,rfl,fin,he⟩
    ·refine aR Tryz.func91 ?_
     have he:=XI w
     refine jA 2 rfl ?_
     have hs1:=he.s
     refine Hb rfl fun w1 hb1 e1=>?_
     refine jC 2 rfl<|jA 4 rfl<|ld rfl hb1 rfl<|jC 1 rfl<|Hq (aS rfl rfl)<|jC 1 rfl<|Hc rfl rfl (fun hc=>aa rfl Fo.h)<|Hk rfl rfl rfl hb1 rfl<|Hc rfl rfl (fun hc=>ak (au hc) rfl)<|Hq (cA rfl rfl (fun h=>beq_iff_eq.2 h))<|jC 1 rfl<|Hc rfl rfl (fun hc=>aa rfl Fo.h)<|Hk rfl rfl rfl hb1 rfl<|Hc rfl rfl (fun hc=>ak (au hc) rfl)<|Hq (cA rfl rfl (fun h=>beq_iff_eq.2 h))<|jC 1 rfl<|Hc rfl rfl (fun hc=>aa rfl Fo.h)<|Hk rfl rfl rfl hb1 rfl<|Hc rfl rfl (fun hc=>ak (au hc) rfl)<|Hq (cA rfl rfl (fun h=>beq_iff_eq.2 h))<|jC 1 rfl<|Hc rfl rfl (fun hc=>aa rfl Fo.h)<|Hk rfl rfl rfl hb1 rfl<|Hc rfl rfl (fun hc=>ak (au hc) rfl)<|Hq (cA rfl rfl (fun h=>beq_iff_eq.2 h))<|WL.nil<|WC.cond rfl ?_ ?_
     ·exact oq
     ·intro hc
      refine WC.skip<|jA 4 rfl<|ld rfl hb1 rfl<|Hq (ae (ak rfl rfl) (br (hk)))<|WL.nil<|jA 4 rfl<|ld rfl hb1 rfl<|jC 1 rfl<|Hq (ae (aS rfl rfl) (decide_eq_true (by(omega))))<|jC 2 rfl<|LL.lg rfl rfl rfl hb1 rfl<|Hg rfl rfl (bd Fo.h rfl rfl rfl)<|jC 1 rfl ?_
      replace hA0:=hA0.m e1
      refine Hg rfl rfl (ao Fb.h rfl Xr (hA0.get (j:=0) rfl))<|WL.lg rfl rfl rfl rfl (cD Fb.h rfl (ik hab)) ?_
      rintro v2 w2 ⟨rfl,e2⟩
      refine jC 3 rfl ?_
      replace hb1:=hb1.m e2
      refine LL.lg rfl rfl rfl hb1 rfl<|Hg rfl rfl (bd Fo.h rfl rfl rfl)<|jC 1 rfl ?_
      replace hA0:=hA0.m e2
      refine Hg rfl rfl (ao Fb.h rfl Xr (hA0.get (j:=5) rfl))<|jC 1 rfl<|Hg rfl rfl (ae (ak rfl rfl) (bk (by(omega))))<|jC 8 rfl<|WC.ret ?_
      replace he:=(he.t e1).t e2
      exact aw rfl ⟨false,rfl,fun h=>(by cases h),he⟩
 ·refine aR Tryz.func91 ?_
  have he:=XI w
  refine jA 2 rfl ?_
  have hs1:=he.s
  refine Hb rfl fun w1 hb1 e1=>?_
  refine jC 2 rfl<|jA 4 rfl<|ld rfl hb1 rfl<|jC 1 rfl<|Hq (aS rfl rfl)<|jC 1 rfl<|Hc rfl rfl (fun hc=>aa rfl Fo.h)<|Hk rfl rfl rfl hb1 rfl<|Hc rfl rfl (fun hc=>ak (au hc) rfl)<|Hq (cA rfl rfl (fun h=>beq_iff_eq.2 h))<|jC 1 rfl<|Hc rfl rfl (fun hc=>aa rfl Fo.h)<|Hk rfl rfl rfl hb1 rfl<|Hc rfl rfl (fun hc=>ak (au hc) rfl)<|Hq (cA rfl rfl (fun h=>beq_iff_eq.2 h))<|jC 1 rfl<|Hc rfl rfl (fun hc=>aa rfl Fo.h)<|Hk rfl rfl rfl hb1 rfl<|Hc rfl rfl (fun hc=>ak (au hc) rfl)<|Hq (cA rfl rfl (fun h=>beq_iff_eq.2 h))<|jC 1 rfl<|Hc rfl rfl (fun hc=>aa rfl Fo.h)<|Hk rfl rfl rfl hb1 rfl<|Hc rfl rfl (fun hc=>ak (au hc) rfl)<|Hq (cA rfl rfl (fun h=>beq_iff_eq.2 h))<|WL.nil<|WC.cond rfl ?_ ?_
  ·exact oq
  ·intro hc
   simp only[Bool.or_eq_false_iff,decide_eq_false_iff_not,beq_eq_false_iff_ne,ne_eq]at hc
   obtain⟨⟨⟨⟨q1,q2⟩,q3⟩,q4⟩,q5⟩:=hc
   have hdn:d=[]:=List.eq_nil_of_length_eq_zero (by omega)
   refine WC.skip<|jA 4 rfl<|ld rfl hb1 rfl<|Hq (ae (ak rfl rfl) (bk (hk)))<|WL.nil<|jA 2 rfl<|jA 4 rfl<|ld rfl hb1 rfl<|jC 3 rfl<|jA 1 rfl ?_
   replace hK:=hK.m e1
   replace he:=he.t e1
   refine WC.loop2 (ι:=Nat) [(1,_),(2,_),(60,_),(61,_)] (fun i=>[(62,.int .i64 (i:Int))]) (fun i wi=>(∀j,j<i→SY (bA ks j))∧(k=22→m7 ks i)∧i≤ks.length∧ay w1 wi) (fun i=>ks.length-i) 0 sb sb (⟨fun j hj=>absurd hj (by omega),fun _ a ha=>absurd ha (by omega),Nat.zero_le _,ay.refl _⟩) ?_
   intro i wi1 hh;obtain⟨qS,qK,ni,hE⟩:=hh
   rcases Nat.lt_or_ge i ks.length with qi|qi
   replace hK:=hK.m hE
   ·obtain⟨b1,o1,c1,rfl,_,hA1,l1,hR1⟩:=hK.kid qi
    rcases hf1:bA ks i with⟨k1,n1,t1,ks1,oo1,d1⟩
    have hF1:=hFk.mem _ (bf qi)
    have hS1:=hks _ (bf qi)
    have hv1:=bo (bf qi)
    rw[hf1]at hR1 hF1 hS1 hv1
    have hR2:=hR1
    obtain⟨pk1,ck1,pd1,cd1,rfl,_,_,_,_⟩:=hR1.openV
    have hT:=i7.mk hE
    have qT:SY (.mk k1 n1 t1 ks1 oo1 d1)→∀j,j<i+1→SY (bA ks j):=fun hq j hj=>by
     rcases Nat.lt_or_ge j i with h|h
     ·exact qS j h
     ·obtain rfl:j=i:=by omega
      rw[hf1];exact hq
    refine jA 2 rfl<|lT rfl rfl<|WL.nil<|jA 8 rfl<|ix rfl rfl rfl<|Hq (ad Fo.h rfl Xr hA1 (hn:=rfl)) ?_
    replace he:=he.t hE
    have:=he.s
    replace hb1:=hb1.m hE
    have:=hb1.lt
    refine Ha fun w2 hb2 e2=>?_
    refine jC 1 rfl<|Ho rfl rfl hb2 fun w3 hb2 e3 hz3=>?_
    refine WL.nil<|jA 3 rfl<|la rfl hb2 ?_
    replace hR2:=hR2.m (e2.t e3)
    refine cl rfl (hS1 _ _ _ hR2 hF1 (by omega)) ?_
    rintro v4 w4 ⟨z,rfl,nz,e4⟩
    refine jC 2 rfl<|WC.cond rfl ?_ ?_
    ·intro h2
     refine jA 4 rfl<|WC.ret ?_
     replace he:=(he.t (e2.t e3)).t e4
     exact aw rfl ⟨false,rfl,fun h=>(by cases h),he⟩
    ·intro h2
     have hSY:=nz (by simpa using h2)
     rcases Decidable.em (k=22)with hk2|hk2
     ·rcases Nat.mod_two_eq_zero_or_one i with hi2|hi2
      ·have hfi:(bA ks i).kind=k1:=by rw[hf1];rfl
       refine WC.skip<|jA 4 rfl ?_
       replace hb1:=(hb1.m (e2.t e3)).m e4
       refine ld rfl hb1 rfl<|Hq (ae (bn rfl rfl) (fI (hk2)))<|jC 2 rfl<|Hg rfl rfl (pF (by decide) rfl rfl)<|Hg rfl rfl (ae (ak rfl rfl) (bk (by(rw[Cu hi2];decide))))<|jC 2 rfl<|jA 2 rfl<|jA 4 rfl ?_
       replace hb2:=hb2.m e4
       refine ld rfl hb2 rfl<|Hl rfl (ur) fun w5 e5=>?_
       refine jC 2 rfl<|WC.cond rfl ?_ ?_
       ·intro h3
        refine jA 4 rfl<|WC.ret ?_
        replace he:=((he.t (e2.t e3)).t e4).t e5
        exact aw rfl ⟨false,rfl,fun h=>(by cases h),he⟩
       ·intro h3
        have hkk:dV k1:=xA (by simpa using h3)
        replace hR2:=(hR2.m e4).m e5
        obtain⟨kk1,kn1,kt1,ko1,kd1,hxe,hR3⟩:=sL hF1 hkk hR2
        refine WC.skip<|jA 5 rfl ?_
        replace hK:=((hK.m (e2.t e3)).m e4).m e5
        replace hb1:=hb1.m e5
        replace hA1:=((hA1.m (e2.t e3)).m e4).m e5
        replace hT:=((hT.m (e2.t e3)).m e4).m e5
        replace hb2:=hb2.m e5
        replace he:=((he.t (e2.t e3)).t e4).t e5
        refine WC.loop2 (ι:=Nat) [(1,_),(2,_),(3,_),(4,_),(60,_),(61,_),(62,_)] (fun j=>[(5,.int .i64 (2 * (j:Int)))]) (fun j wi=>(∀b,b<j→same (cX (bA ks (2 * b))) (cX (.mk k1 n1 t1 ks1 oo1 d1))=false)∧ay w5 wi) (fun j=>ks.length-j) 0 sb sb (⟨fun b hb=>absurd hb (by omega),ay.refl _⟩) ?_
        intro j wi2 hh;obtain⟨qD,hE⟩:=hh
        rcases Nat.lt_or_ge (2 * j) i with qj|qj
        replace hK:=hK.m hE
        ·obtain⟨c4,_,hA4,l4,hR4⟩:=hK.kidP (i:=2 * j) (by omega)
         obtain⟨kk4,kn4,kt4,ko4,kd4,hxe4,hR4⟩:=sL (hFk.mem _ (bf (by omega))) (qK hk2 j (by omega)).1 hR4
         have hv4:=bo (bf (ks:=ks) (j:=2 * j) (by omega))
         refine jA 5 rfl<|lT rfl rfl<|WL.nil<|jA 2 rfl<|jA 2 rfl ?_
         replace hb1:=hb1.m hE
         replace hA1:=hA1.m hE
         replace hR2:=hR2.m hE
         replace hT:=hT.m hE
         replace hb2:=hb2.m hE
         replace hR3:=hR3.m hE
         refine WC.seq<|WC.regionD (tt [0,1,2,3,4,6]++ff [5,7,8]) (ay _) mixed (by kernel_rfl) Xd<|jE 1 rfl<|dl rfl hb1 rfl<|jE 1 rfl<|He (fun _ hS=>bd Fo.h rfl rfl (show 2 * (j:Int)=((2 * j:Nat):Int) by omega) (by omega))<|He (fun _ hS=>ad Fo.h rfl hS hA4 (hn:=l4))<|He (fun _ hS=>ad Fo.h rfl hS hb2.at (hn:=by first|rfl|assumption))<|LL.cd rfl (m4 (hR4.m Xd)) ?_
         rintro v6 w6 ⟨cs4,rfl,hR5,e6⟩
         refine⟨(Vd.t e6),?_⟩
         refine LL.cd rfl (m4 ((hR3.m Xd).m e6)) ?_
         rintro v7 w7 ⟨cs5,rfl,hR6,e7⟩
         refine⟨((Vd.t e6).t e7),?_⟩
         refine LL.cd rfl (eR (by rw[lh,← hxe4];omega) (hR5.m e7) hR6) ?_
         rintro v8 w8 ⟨rfl,e8⟩
         refine⟨(((Vd.t e6).t e7).t e8),?_⟩
         refine WD.nil<|WC.cond rfl ?_ ?_
         ·intro h5
          refine jA 4 rfl<|WC.ret ?_
          replace he:=((((he.t hE).t Xd).t e6).t e7).t e8
          exact aw rfl ⟨false,rfl,fun h=>(by cases h),he⟩
         ·intro h5
          refine WC.skip<|jA 2 rfl<|ai rfl rfl rfl<|jC 2 rfl ?_
          exact⟨j+1,sb,sb,⟨fun b hb=>by rcases Nat.lt_or_ge b j with h|h;exact qD b h;obtain rfl:b=j:=(by omega);rw[hxe4,hxe];exact h5,(((((hE.t Xd).t e6).t e7).t e8))⟩,by omega⟩
        ·refine jA 5 rfl<|lF rfl rfl<|WL.nil<|jA 1 rfl<|WC.exit<|jA 1 rfl<|ai rfl rfl rfl<|jC 2 rfl ?_
         replace hT:=hT.m hE
         exact⟨i+1,sb,sb,⟨qT hSY,fun hk22=>(qK hk22).even hi2 (by rw[hfi];exact hkk) (fun b hb=>by rw[hf1];exact qD b (by omega)),qi,hT.evo⟩,by omega⟩
      ·refine WC.skip<|jA 4 rfl ?_
       replace hb1:=(hb1.m (e2.t e3)).m e4
       refine ld rfl hb1 rfl<|Hq (ae (bn rfl rfl) (fI (hk2)))<|jC 2 rfl<|Hg rfl rfl (pF (by decide) rfl rfl)<|Hg rfl rfl (ae (ak rfl rfl) (br (by(rw[Cu hi2];rfl))))<|jC 2 rfl<|jA 1 rfl<|WC.exit<|jA 1 rfl<|ai rfl rfl rfl<|jC 2 rfl ?_
       exact⟨i+1,sb,sb,⟨qT hSY,fun hk22=>(qK hk22).odd hi2,qi,(((hE.t (e2.t e3)).t e4))⟩,by omega⟩
     ·refine WC.skip<|jA 4 rfl ?_
      replace hb1:=(hb1.m (e2.t e3)).m e4
      refine ld rfl hb1 rfl<|Hq (ae (bn rfl rfl) (kQ (hk2)))<|jC 6 rfl<|jA 1 rfl<|WC.exit<|jA 1 rfl<|ai rfl rfl rfl<|jC 2 rfl ?_
      exact⟨i+1,sb,sb,⟨qT hSY,fun hk22=>absurd hk22 hk2,qi,(((hE.t (e2.t e3)).t e4))⟩,by omega⟩
   ·have hin:i=ks.length:=by omega
    subst hin
    have fin:SY (.mk k n t ks o d):=by
     rw[SY]
     exact⟨hdn,by omega,fun h=>absurd h hk,fun _=>vL.of fun x hx=>by
      obtain⟨j,hj,rfl⟩:=iy hx
      exact qS j hj,fun h22 a ha=>qK h22 a ha⟩
    refine jA 2 rfl<|lF rfl rfl<|WL.nil<|jA 2 rfl<|WC.exit<|jA 4 rfl<|WC.ret ?_
    replace he:=he.t hE
    exact aw rfl ⟨true,rfl,fun _=>fin,he⟩
mutual
theorem Cs:∀x:V,A4 x
 | .mk k n t ks o d=>BV (Cr ks)
theorem Cr:∀l:List V,∀x∈l,A4 x
 |[],x,hx=>by cases hx
 |a::r,x,hx=>by
  rcases List.mem_cons.1 hx with e|hx
  ·exact e▸Cs a
  ·exact Cr r x hx
end
theorem uY{A:Nat→Prop}{x:V}{cx:List Value}{w:World}(hx:aC A w x cx)(hUT:UT w):
  ah TP 64 [.agg cx.toArray] w fun r w'=>∃z,r= .bool z∧(z=true→VF x∧SY x∧aE x≤300)∧ay w w':=by
 obtain⟨x0,x1,x2,x3,x4,x5,rfl⟩:=hx.six
 refine aR Tryz.func64 ?_
 have he:=XI w
 refine jA 2 rfl ?_
 have:=he.s
 refine Hb rfl fun w1 hb1 e1=>?_
 refine jD 4 rfl<|la rfl hb1 ?_
 replace hx:=hx.m e1
 replace hUT:=hUT.m e1
 refine cl rfl (kJ hx hUT (by omega) (by omega)) ?_
 rintro v2 w2 ⟨z1,rfl,n1,e2⟩
 rcases z1 with _|_
 ·refine jC 11 rfl<|WC.ret ?_
  replace he:=(he.t e1).t e2
  exact aw rfl ⟨false,rfl,fun h=>(by cases h),he⟩
 ·obtain⟨hF,hc⟩:=n1 rfl
  rcases Decidable.em (aE x≤300)with h300|h300
  ·refine jC 1 rfl ?_
   replace hb1:=hb1.m e2
   refine Hg rfl rfl (ad Fo.h rfl Xr hb1.at (hn:=by first|rfl|assumption)) ?_
   replace hx:=hx.m e2
   refine WL.lg rfl rfl rfl rfl (cD Fb.h rfl (B5 x _ _ _ hx (by omega))) ?_
   rintro v3 w3 ⟨rfl,e3⟩
   refine Hg rfl rfl (ae (aY rfl rfl) (decide_eq_true (by(omega))))<|jC 2 rfl ?_
   replace hb1:=hb1.m e3
   refine Hg rfl rfl (ad Fo.h rfl Xr hb1.at (hn:=by first|rfl|assumption)) ?_
   replace hx:=hx.m e3
   refine WL.lg rfl rfl rfl rfl (cD Fb.h rfl (Cs x _ _ _ hx hF (by omega))) ?_
   rintro v4 w4 ⟨z2,rfl,n2,e4⟩
   refine jC 3 rfl<|WC.ret ?_
   replace he:=(((he.t e1).t e2).t e3).t e4
   exact aw rfl ⟨z2,rfl,fun h=>⟨hF,n2 h,h300⟩,he⟩
  ·refine jC 1 rfl ?_
   replace hb1:=hb1.m e2
   refine Hg rfl rfl (ad Fo.h rfl Xr hb1.at (hn:=by first|rfl|assumption)) ?_
   replace hx:=hx.m e2
   refine WL.lg rfl rfl rfl rfl (cD Fb.h rfl (B5 x _ _ _ hx (by omega))) ?_
   rintro v3 w3 ⟨rfl,e3⟩
   refine Hg rfl rfl (ae (aY rfl rfl) (decide_eq_false (by(omega))))<|jC 7 rfl<|WC.ret ?_
   replace he:=((he.t e1).t e2).t e3
   exact aw rfl ⟨false,rfl,fun h=>(by cases h),he⟩
def lB(kk:Int)(l:List V):Prop:=fH l∧fe l∧(∀x∈aP l,x.kind=kk)
theorem BG{kk:Int}(hkk:kk=19∨kk=20)(hF:VF (dP l))(hS:SY (dP l))(hk:∀j,2 * j<l.length→(bA l (2 * j)).kind=kk):lB kk l:=by
 have h0:l.length%2=0:=by
  have hq:=hF
  unfold dP at hq
  rw[VF]at hq
  exact hq.2.2.2.2.2.2.2.2.1.2.2.2.2.1 rfl
 have h1:∀x∈aP l,x.kind=kk:=fun x hx=>by
  obtain⟨i,hi,rfl⟩:=List.getElem_of_mem hx
  have hl:2 * i+1<l.length:=by
   rcases Nat.lt_or_ge (2 * i+1) l.length with h1|h1
   ·exact h1
   ·exfalso
    have h2:=eK i l
    rw[List.take_of_length_le (by omega)]at h2
    have h3:=congrArg List.length h2
    rw[List.length_take]at h3
    omega
  have h2:=dD i l hl
  rw[List.getElem?_eq_getElem hi]at h2
  rw[Option.some.inj h2,bW (by omega)]
  exact hk i (by omega)
 refine⟨Dn hF hS (fun x hx=>by rw[h1 x hx];exact hkk),?_,h1⟩
 have:=hF.trim
 unfold dP at this
 rw[lC]at this
 exact this.2.2
theorem zn(kk:Int):lB kk []:=⟨Be,by rw[fe];trivial,fun x hx=>by simp[aP]at hx⟩
theorem mu{l:List V}{kk:Int}(hkk:kk=19∨kk=20)(hK:cM A w l.length (.slice p l.length c) (ag A w l))(hI:At w b o [.int .i64 kk])(hUT:UT w):
  ah TP 37 [.slice p l.length c,.slice (some ⟨b,o,none⟩) 1 cc] w fun r w'=>∃z,r= .bool z∧(z=true→lB kk l)∧ay w w':=by
 have hR:aC A w (dP l) [.int .i64 22,.int .u64 0,str [],.slice p l.length c,.int .i64 0,.slice none 0 0]:=aC.mkK hK
 rcases Nat.eq_zero_or_pos l.length with h0|h0
 ·have hl:l=[]:=List.eq_nil_of_length_eq_zero h0
  refine aR Tryz.func37 ?_
  have he:=XI w
  refine jA 7 rfl<|Hq (az (cs:=[_,_,_,_,_,_]) Fo.h rfl rfl) ?_
  have hs1:=he.s
  refine Ha fun w1 hb1 e1=>?_
  refine Ho rfl rfl hb1 fun w2 hb1 e2 hz2=>?_
  refine jD 5 rfl<|Hq (ae (ak rfl rfl) (br (by(omega))))<|jC 16 rfl<|WC.ret ?_
  replace he:=he.t (e1.t e2)
  exact aw rfl ⟨true,rfl,fun _=>hl▸zn kk,he⟩
 ·refine aR Tryz.func37 ?_
  have he:=XI w
  refine jA 7 rfl<|Hq (az (cs:=[_,_,_,_,_,_]) Fo.h rfl rfl) ?_
  have hs1:=he.s
  refine Ha fun w1 hb1 e1=>?_
  refine Ho rfl rfl hb1 fun w2 hb1 e2 hz2=>?_
  refine jD 5 rfl<|Hq (ae (ak rfl rfl) (bk (by(omega))))<|jC 1 rfl<|Hg rfl rfl (ad Fo.h rfl Xr hb1.at (hn:=by first|rfl|assumption)) ?_
  replace hUT:=hUT.m (e1.t e2)
  replace hR:=hR.m (e1.t e2)
  refine WL.lg rfl rfl rfl rfl (cD Fb.h rfl (uY hR hUT)) ?_
  rintro v3 w3 ⟨z1,rfl,n1,e3⟩
  rcases z1 with _|_
  ·refine jC 13 rfl<|WC.ret ?_
   replace he:=(he.t (e1.t e2)).t e3
   exact aw rfl ⟨false,rfl,fun h=>(by cases h),he⟩
  ·obtain⟨hF,hS,hc⟩:=n1 rfl
   have hF0:=hF
   unfold dP at hF0
   rw[VF]at hF0
   refine jC 1 rfl ?_
   replace hb1:=hb1.m e3
   refine Hg rfl rfl (ad Fo.h rfl Xr hb1.at (hn:=by first|rfl|assumption))<|jC 1 rfl ?_
   replace hI:=(hI.m (e1.t e2)).m e3
   replace hR:=hR.m e3
   refine WL.lg rfl rfl rfl rfl (cD Fb.h rfl (wP hR hF0.2.2.2.2.2.2.1 hI)) ?_
   rintro v4 w4 ⟨z2,rfl,n2,e4⟩
   rcases z2 with _|_
   ·refine jC 9 rfl<|WC.ret ?_
    replace he:=((he.t (e1.t e2)).t e3).t e4
    exact aw rfl ⟨false,rfl,fun h=>(by cases h),he⟩
   ·have hM:=BG hkk hF hS (n2 rfl)
    refine jC 2 rfl ?_
    replace hb1:=hb1.m e4
    refine Hg rfl rfl (ad Fo.h rfl Xr hb1.at (hn:=by first|rfl|assumption)) ?_
    replace hR:=hR.m e4
    refine WL.lg rfl rfl rfl rfl (cD Fb.h rfl (FA _ _ _ _ hR (by omega))) ?_
    rintro v5 w5 ⟨z3,rfl,e5⟩
    refine jC 5 rfl<|WC.ret ?_
    replace he:=(((he.t (e1.t e2)).t e3).t e4).t e5
    exact aw rfl ⟨_,rfl,fun _=>hM,he⟩
def Fm(w:World)(fb:Nat):Prop:=∃s b,0≤s∧s<18446744073709551616∧aH w fb [.int .u64 s,.bool b]
theorem Fm.m(h:Fm w fb)(e:am A w w')(hA:A fb:=by first|exact trivial|((try dsimp only[Nb]);omega)|assumption):Fm w' fb:=by
 obtain⟨s,b,h1,h2,h3⟩:=h
 exact⟨s,b,h1,h2,h3.m e hA⟩
theorem Fm.lt(h:Fm w fb):fb<w.heap.size:=by obtain⟨s,b,_,_,h⟩:=h;exact h.lt
theorem mZ(z:Int):0≤IntKind.u64.wrap z∧IntKind.u64.wrap z<18446744073709551616:=by
 have:IntKind.u64.wrap z=z%18446744073709551616:=rfl
 rw[this];omega
theorem D5{s:Int}{n:Nat}(h1:0≤s)(h2:s<18446744073709551616)(hn:1≤n):∃k:Nat,k<n∧(IntKind.i64.wrap (s.fdiv (2^(min (33:Int).toNat IntKind.u64.bits)))).tmod (n:Int)=(k:Int):=by
 have e1:(2:Int)^(min (33:Int).toNat IntKind.u64.bits)=8589934592:=by decide
 rw[e1]
 have e2:s.fdiv 8589934592=s / 8589934592:=Int.fdiv_eq_ediv_of_nonneg _ (by omega)
 rw[e2,dM (by omega) (by omega)]
 have e3:(s / 8589934592).tmod (n:Int)=(s / 8589934592)%(n:Int):=Int.tmod_eq_emod_of_nonneg (by omega)
 rw[e3]
 have h5:=Int.emod_nonneg (s / 8589934592) (show(n:Int)≠0 by omega)
 have h6:=Int.emod_lt_of_pos (s / 8589934592) (show 0<(n:Int) by omega)
 exact⟨((s / 8589934592)%(n:Int)).toNat,by omega,by omega⟩
theorem jM{n:Nat}(hF:Fm w fb)(hn:1≤n)(hn2:n≤1000000):
  ah TP 32 [.pointer (some ⟨fb,0,none⟩),.int .i64 (n:Int)] w fun r w'=>(∃k:Nat,k<n∧r= .int .i64 (k:Int))∧Fm w' fb∧am (fun k=>k≠fb) w w':=by
 obtain⟨s,b,h1,h2,hB⟩:=hF
 cases b with
 |true=>
  refine aR Tryz.func32 ?_
  refine jA 10 rfl<|ld rfl hB rfl<|jD 10 rfl<|WC.ret ?_
  exact aw rfl ⟨⟨0,by omega,rfl⟩,⟨s,true,h1,h2,hB⟩,ch⟩
 |false=>
  rcases Nat.lt_or_ge 1 n with h5|h5
  ·refine aR Tryz.func32 ?_
   refine jA 10 rfl<|ld rfl hB rfl<|jC 2 rfl<|Hg rfl rfl (ae (aY rfl rfl) (decide_eq_false (by omega)))<|jD 4 rfl<|jA 6 rfl<|ld rfl hB rfl<|Hq (zG rfl rfl)<|Hq (pD rfl rfl)<|jC 2 rfl<|Hp rfl rfl hB fun w1 hB e1 hz1=>?_
   refine jD 6 rfl<|ld rfl hB rfl<|Hq (df rfl rfl (by decide))<|Hq (aL Fo.h rfl)<|jC 1 rfl<|Hq (pF (by omega) rfl rfl)<|jC 2 rfl<|WC.ret ?_
   obtain⟨k,hk,ek⟩:=D5 (s:=IntKind.u64.wrap (IntKind.u64.wrap (s * 6364136223846793005)+1442695040888963407)) (n:=n) (mZ _).1 (mZ _).2 hn
   exact aw rfl ⟨⟨k,hk,congrArg (Value.int .i64) ek⟩,⟨_,false,(mZ _).1,(mZ _).2,hB⟩,ch⟩
  ·refine aR Tryz.func32 ?_
   refine jA 10 rfl<|ld rfl hB rfl<|jC 2 rfl<|Hg rfl rfl (ae (aY rfl rfl) (decide_eq_true (by omega)))<|jD 7 rfl<|WC.ret ?_
   exact aw rfl ⟨⟨0,by omega,rfl⟩,⟨s,false,h1,h2,hB⟩,ch⟩
theorem sn(n:Nat):∀(k m:Nat),m<k→(aI n k)[k-1-m]?=some (UInt8.ofNat (n>>>(8 * m)))
 |0,m,h=>absurd h (by omega)
 |k+1,m,h=>by
  rcases Nat.lt_or_ge m k with h1|h1
  ·rw[aI,show k+1-1-m=(k-1-m)+1 by omega,List.getElem?_cons_succ]
   exact sn n k m h1
  ·obtain rfl:m=k:=by omega
   rw[aI,show m+1-1-m=0 by omega,List.getElem?_cons_zero]
theorem Bh{u:Int}{m:Nat}(hu:0≤u)(hm:m≤7):IntKind.u8.wrap (u.fdiv (2^(min (8 * (m:Int)).toNat IntKind.u64.bits)))=((UInt8.ofNat (u.toNat>>>(8 * m))).toNat:Int):=by
 have e0:min (8 * (m:Int)).toNat IntKind.u64.bits=8 * m:=by
  have:IntKind.u64.bits=64:=rfl
  rw[this];omega
 rw[e0]
 obtain⟨n,rfl⟩:∃n:Nat,u=n:=⟨u.toNat,by omega⟩
 have e1:((n:Int)).fdiv (2^(8 * m))=((n / 2^(8 * m):Nat):Int):=by
  rw[Int.fdiv_eq_ediv_of_nonneg _ (by exact_mod_cast Nat.zero_le (2^(8 * m)))]
  push_cast;rfl
 rw[e1,Int.toNat_natCast,UInt8.toNat_ofNat',Nat.shiftRight_eq_div_pow]
 have e2:∀z:Nat,IntKind.u8.wrap (z:Int)=((z%2^8:Nat):Int):=fun z=>by
  have:IntKind.u8.wrap (z:Int)=(z:Int)%256:=rfl
  rw[this];omega
 exact e2 _
theorem cJ{u:Int}{k:Nat}(hu:0≤u)(hk:k≤8):
  ah TP 173 [.int .u64 u,.int .i64 (k:Int)] w fun r w'=>aT w.heap.size 5 1 w' r k (bc (aI u.toNat k))∧ay w w':=by
 have hbl:=bh u.toNat k
 refine aR Tryz.func173 ?_
 have he:=Hi w
 refine jA 12 rfl<|Hq (bP rfl rfl rfl (by omega) (by omega))<|jD 3 rfl<|WC.loop2 (ι:=(Nat×Value)) [(0,_),(4,_)] (fun i=>[(5,i.2),(6,.int .i64 ((i.1:Int)-1))]) (fun i wi=>aT w.heap.size 5 1 wi i.2 (k-i.1) (bc ((aI u.toNat k).take (k-i.1)))∧i.1≤k∧am (fun b=>b<w.heap.size) w wi) (fun i=>i.1) (k,.slice none 0 0) sb sb (⟨by simpa using aT.nil _ _ _ _,Nat.le_refl _,am.refl _⟩) ?_
 intro i wi1 hh;obtain⟨hO,nil2,hE⟩:=hh
 obtain⟨m,sv⟩:=i
 dsimp only at hO nil2
 have:=hE.s
 rcases Nat.eq_zero_or_pos m with hm|hm
 ·subst hm
  rw[Nat.sub_zero,List.take_of_length_le (by omega)]at hO
  refine jA 4 rfl<|Hq (ae (bK rfl rfl) (decide_eq_false (by omega)))<|jD 2 rfl<|WC.exit<|jA 5 rfl<|WC.ret ?_
  replace he:=he.t hE
  exact aw rfl ⟨hO,he.k fun k hk _=>hk⟩
 ·obtain⟨j,rfl⟩:∃j,m=j+1:=⟨m-1,by omega⟩
  have hg:=sn u.toNat k j (by omega)
  have hlt:k-(j+1)<(aI u.toNat k).length:=by omega
  rw[show k-1-j=k-(j+1) by omega,List.getElem?_eq_getElem hlt]at hg
  have htk:(aI u.toNat k).take (k-j)=(aI u.toNat k).take (k-(j+1))++[UInt8.ofNat (u.toNat>>>(8 * j))]:=by
   rw[show k-j=(k-(j+1))+1 by omega,← Option.some.inj hg,List.take_append_getElem]
  have hby:=Bh (m:=j) hu (by omega)
  refine jA 4 rfl<|Hq (ae (bK rfl rfl) (decide_eq_true (by omega)))<|jD 3 rfl<|jA 6 rfl<|Hq (eg (c:=8 * (j:Int)) rfl rfl (by omega) (by omega) (by omega))<|Hq (df rfl rfl (by omega))<|Hq (bp Fo.h rfl hby) ?_
  replace he:=he.t hE
  have:=he.s
  refine WL.l rfl (ll [_]) ?_
  rintro _ w1 ⟨rfl,hb1,e1⟩
  replace hO:=hO.m e1
  refine WL.l rfl (bz Fo.h rfl rfl hO (Src.at Fb.h hb1.at rfl rfl) (by have:=e1.s;omega) (by simp only[maxLen];omega) (by omega)) ?_
  rintro v2 w2 ⟨hO,e2⟩
  refine jD 4 rfl<|Hq (bP rfl rfl rfl (by omega) (by omega))<|jC 2 rfl ?_
  have hO2:aT w.heap.size 5 1 w2 v2 (k-j) (bc ((aI u.toNat k).take (k-j))):=by
   rw[htk,bC,show k-j=(k-(j+1))+1 by omega];exact hO
  exact⟨(j,v2),sb,sb,⟨hO2,by omega,(((hE.t e1).t e2))⟩,(by show j<j+1;omega)⟩
end Go.Proofs.LL
