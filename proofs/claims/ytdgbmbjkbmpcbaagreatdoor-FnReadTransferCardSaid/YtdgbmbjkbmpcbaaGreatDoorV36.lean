/- Contracts of functions and own laws. Conditions: those that each theorem states. -/
import Derived.Test.YtdgbmbjkbmpcbaaGreatDoorV35
set_option linter.all false
set_option autoImplicit true
set_option relaxedAutoImplicit true
set_option maxRecDepth 20000
namespace Go.Proofs.LL
open Go Go.Proofs Go.RowKit
set_option maxHeartbeats 4000000
attribute [local irreducible] ar WL WC cq WT WX
theorem AC{A:Prop}(h:A:=by
 rcases Nat.lt_or_ge j i with h|h
 ·exact qS j h
 ·obtain rfl:j=i:=by omega
  exact nzk (by simpa using h4)):A:=h
def Ev(x:V):Prop:=∀(A:Nat→Prop) (cx:List Value) (L:Int) (w:World),aC A w x cx→aE x≤100000→UT w→0≤L→L≤1000→
 ah TP 68 [.agg cx.toArray,.int .i64 L] w fun r w'=>∃b,r= .bool b∧(b=true→VF x)∧ay w w'
theorem FO{k:Int}{n:Nat}{t:List UInt8}{ks:List V}{o:Int}{d:List V}(h0:0≤k)(h1:k≤23)(h2:((k=21∨k=22)∨k=23)∨ks.length=0)(h3:((17≤k∧k≤20)∨k=14)∨t=[])(h4:((1≤k∧k≤16)∧k≠14)∨n=0)(h5:d.length≤1)(h6:ks.length≤1000)(h7:t.length≤131072)(hc:CF k n t ks)(hk:∀x∈ks,VF x)(hd:∀x∈d,VF x):VF (.mk k n t ks o d):=by
 rw[VF]
 refine⟨h0,h1,fun h=>?_,fun h=>?_,fun h=>?_,h5,h6,h7,hc,iT.of hk,iT.of hd⟩
 ·rcases h2 with h2|h2
  ·omega
  ·exact List.eq_nil_of_length_eq_zero h2
 ·rcases h3 with h3|h3
  ·omega
  ·exact h3
 ·rcases h4 with h4|h4
  ·omega
  ·exact h4
theorem Eh{k:Int}{ks:List V}{o:Int}{d:List V}(hks:∀x∈ks,Ev x)(hds:∀x∈d,Ev x):Ev (.mk k n t ks o d):=by
 intro A cx L w hx hv hUT l0 l1
 obtain⟨pk,ck,pd,cd,rfl,_,_,hK,hD⟩:=hx.openV
 rw[aE]at hv
 have hkl:=av ks
 refine aR Tryz.func68 ?_
 have he:=XI w
 refine jA 2 rfl ?_
 have hs1:=he.s
 refine Hb rfl fun w1 hb1 e1=>?_
 refine jC 2 rfl<|jA 3 rfl<|ld rfl hb1 rfl<|Hq (ak rfl rfl)<|jC 1 rfl<|Hc rfl rfl (fun hc=>aa rfl Fo.h)<|Hk rfl rfl rfl hb1 rfl<|Hc rfl rfl (fun hc=>ak (au hc) rfl)<|Hq (cA rfl rfl (fun h=>beq_iff_eq.2 h))<|jC 1 rfl<|Hc rfl rfl (fun hc=>aa rfl Fo.h)<|Hk rfl rfl rfl hb1 rfl<|Hc rfl rfl (fun hc=>ak (au hc) rfl)<|Hq (cA rfl rfl (fun h=>beq_iff_eq.2 h))<|jC 2 rfl<|jA 3 rfl<|ld rfl hb1 rfl<|Hq (bK rfl rfl)<|jC 1 rfl<|Hc rfl rfl (fun hc=>aa rfl Fo.h)<|Hk rfl rfl rfl hb1 rfl<|Hc rfl rfl (fun hc=>aY (au hc) rfl)<|Hq (bU rfl rfl (fun h=>beq_iff_eq.2 h))<|jC 1 rfl<|Hc rfl rfl (fun hc=>aa rfl Fo.h)<|Hk rfl rfl rfl hb1 rfl<|Hc rfl rfl (fun hc=>ak (au hc) rfl)<|Hq (cA rfl rfl (fun h=>beq_iff_eq.2 h))<|jC 2 rfl<|jA 3 rfl<|ld rfl hb1 rfl<|Hq (bK rfl rfl)<|jC 1 rfl<|Hc rfl rfl (fun hc=>aa rfl Fo.h)<|Hk rfl rfl rfl hb1 rfl<|Hc rfl rfl (fun hc=>aY (au hc) rfl)<|Hq (bU rfl rfl (fun h=>beq_iff_eq.2 h))<|jC 1 rfl<|Hc rfl rfl (fun hc=>aa rfl Fo.h)<|Hk rfl rfl rfl hb1 rfl<|Hc rfl rfl (fun hc=>bn (au hc) rfl)<|Hq (bU rfl rfl (fun h=>beq_iff_eq.2 h))<|jC 2 rfl<|jA 4 rfl<|Hq (aY rfl rfl)<|jC 1 rfl<|Hc rfl rfl (fun hc=>aa rfl Fo.h)<|Hk rfl rfl rfl hb1 rfl<|Hc rfl rfl (fun hc=>ef (au hc) rfl)<|Hq (cA rfl rfl (fun h=>beq_iff_eq.2 h))<|jC 1 rfl<|Hc rfl rfl (fun hc=>aa rfl Fo.h)<|Hk rfl rfl rfl hb1 rfl<|Hc rfl rfl (fun hc=>bK (au hc) rfl) ?_
 refine Hq (cA rfl rfl (fun h=>beq_iff_eq.2 h))<|jC 1 rfl<|Hc rfl rfl (fun hc=>aq rfl)<|Hc rfl rfl (fun hc=>fF (au hc))<|Hc rfl rfl (fun hc=>aq (au hc))<|WL.qcc rfl rfl rfl rfl (fun hc hx=>aa rfl Fo.h)<|WL.qcc rfl rfl rfl rfl (fun hc hx=>ao Fb.h (aU hc hx) Xr (hb1.get rfl))<|WL.qcc rfl rfl rfl rfl (fun hc hx=>fy Fo.h (aU hc hx))<|WL.qcc rfl rfl rfl rfl (fun hc hx=>aS (aU hc hx) rfl)<|Hc rfl rfl (fun hc=>bU (au hc) rfl (fun h=>by first|(simp[*];done)|(exfalso;simp at h;done)|(simp_all;done)))<|Hq (cA rfl rfl (fun h=>beq_iff_eq.2 h))<|jC 1 rfl<|Hc rfl rfl (fun hc=>aq rfl)<|Hc rfl rfl (fun hc=>fF (au hc))<|Hc rfl rfl (fun hc=>aq (au hc))<|WL.qcc rfl rfl rfl rfl (fun hc hx=>aa rfl Fo.h)<|WL.qcc rfl rfl rfl rfl (fun hc hx=>ao Fb.h (aU hc hx) Xr (hb1.get rfl))<|WL.qcc rfl rfl rfl rfl (fun hc hx=>wr (aU hc hx) rfl)<|Hc rfl rfl (fun hc=>bU (au hc) rfl (fun h=>by first|(simp[*];done)|(exfalso;simp at h;done)|(simp_all;done)))<|Hq (cA rfl rfl (fun h=>beq_iff_eq.2 h))<|jC 1 rfl<|Hc rfl rfl (fun hc=>aq rfl)<|Hc rfl rfl (fun hc=>fF (au hc))<|Hc rfl rfl (fun hc=>aq (au hc))<|WL.qcc rfl rfl rfl rfl (fun hc hx=>aa rfl Fo.h)<|WL.qcc rfl rfl rfl rfl (fun hc hx=>ao Fb.h (aU hc hx) Xr (hb1.get rfl))<|WL.qcc rfl rfl rfl rfl (fun hc hx=>bn (aU hc hx) rfl) ?_
 refine Hc rfl rfl (fun hc=>bU (au hc) rfl (fun h=>by first|(simp[*];done)|(exfalso;simp at h;done)|(simp_all;done)))<|Hq (cA rfl rfl (fun h=>beq_iff_eq.2 h))<|jC 1 rfl<|Hc rfl rfl (fun hc=>aa rfl Fo.h)<|Hk rfl rfl rfl hb1 rfl<|Hc rfl rfl (fun hc=>fy Fo.h (au hc))<|Hc rfl rfl (fun hc=>aS (au hc) rfl)<|Hq (cA rfl rfl (fun h=>beq_iff_eq.2 h))<|jC 1 rfl<|Hc rfl rfl (fun hc=>aa rfl Fo.h)<|Hk rfl rfl rfl hb1 rfl<|Hc rfl rfl (fun hc=>fy Fo.h (au hc))<|Hc rfl rfl (fun hc=>aS (au hc) rfl)<|Hq (cA rfl rfl (fun h=>beq_iff_eq.2 h))<|jC 1 rfl<|Hc rfl rfl (fun hc=>aa rfl Fo.h)<|Hk rfl rfl rfl hb1 rfl<|Hc rfl rfl (fun hc=>jm Fb.h (au hc))<|Hc rfl rfl (fun hc=>aS (au hc) rfl)<|Hq (cA rfl rfl (fun h=>beq_iff_eq.2 h))<|WL.nil<|WC.cond rfl ?_ ?_
 ·intro hc
  refine jA 4 rfl<|WC.ret ?_
  replace he:=he.t e1
  exact aw rfl ⟨false,rfl,fun h=>(by cases h),he⟩
 ·intro hc
  simp only[Bool.or_eq_false_iff,Bool.and_eq_false_iff,Bool.not_eq_false',decide_eq_false_iff_not,Bool.or_eq_true,Bool.and_eq_true,decide_eq_true_eq,beq_iff_eq,bne_iff_ne,bne_eq_false_iff_eq,ne_eq]at hc
  obtain⟨⟨⟨⟨⟨⟨⟨⟨q1,q2⟩,q3⟩,q4⟩,q5⟩,q6⟩,q7⟩,q8⟩,q9⟩:=hc
  have q9':t.length≤131072:=by
   have:¬(131072:Int)<(t.length:Int):=q9
   omega
  have fin:∀(b:Bool),(b=true→CF k n t ks)→(∀x∈ks,VF x)→(∀x∈d,VF x)→b=true→VF (.mk k n t ks o d):=fun b hb h1 h2 hbt=>
   FO (by omega) (by omega) (q4.imp id (by omega)) q5 (q6.imp id (by omega)) (by omega) (by omega) q9' (hb hbt) h1 h2
  have loopQ:∀(L':Int),True:=fun _=>trivial
  rcases Decidable.em (d.length=1)with hd1|hd1
  replace hD:=hD.m e1
  ·obtain⟨b,o1,c1,rfl,_,hA0,l2,hR0⟩:=hD.kid (i:=0) (by omega)
   rcases hf0:bA d 0 with⟨k0,n0,t0,ks0,oo0,d0⟩
   have hV0:=hds _ (bf (show 0<d.length by omega))
   have hm0:=bo (bf (show 0<d.length by omega))
   have hD1:∀y,VF (bA d 0)→y∈d→VF y:=fun y h hy=>by
    obtain⟨j,hj,rfl⟩:=iy hy
    obtain rfl:j=0:=by omega
    exact h
   rw[hf0]at hR0 hV0 hm0 hD1
   have hR1:=hR0
   obtain⟨pk0,ck0,pd0,cd0,rfl,_,_,_,hD0⟩:=hR0.openV
   refine WC.skip<|jA 4 rfl<|ld rfl hb1 rfl<|jC 1 rfl<|Hq (ae (ak rfl rfl) (br (by(omega))))<|jC 2 rfl<|LL.lg rfl rfl rfl hb1 rfl<|Hg rfl rfl (bd Fo.h rfl rfl rfl)<|Hg rfl rfl (ad Fo.h rfl Xr hA0 (hn:=rfl))<|jC 1 rfl<|Hg rfl rfl (bP rfl rfl rfl (by omega) (by omega)) ?_
   replace hUT:=hUT.m e1
   refine WL.lg rfl rfl rfl rfl (cD Fb.h rfl (hV0 _ _ _ _ hR1 (by omega) hUT (by omega) (by omega))) ?_
   rintro v2 w2 ⟨zd,rfl,nzd,e2⟩
   refine jC 2 rfl<|Hc rfl rfl (fun hc=>aa rfl Fo.h) ?_
   replace hb1:=hb1.m e2
   refine Hk rfl rfl rfl hb1 rfl<|Hc rfl rfl (fun hc=>bd Fo.h (au hc) rfl rfl (by first|omega|(simp;done)|(simp;omega)))<|Hc rfl rfl (fun hc=>aa (au hc) Fo.h) ?_
   replace hA0:=hA0.m e2
   refine Hc rfl rfl (fun hc=>ao Fb.h (au hc) Xr (hA0.get (j:=0) rfl))<|Hc rfl rfl (fun hc=>bn (au hc) rfl)<|Hc rfl rfl (fun hc=>aq (au hc))<|WL.qcc rfl rfl rfl rfl (fun hc hx=>aa rfl Fo.h)<|WL.qcc rfl rfl rfl rfl (fun hc hx=>ao Fb.h (aU hc hx) Xr (hb1.get rfl))<|WL.qcc rfl rfl rfl rfl (fun hc hx=>bd Fo.h (aU hc hx) rfl rfl (by first|omega|(simp;done)|(simp;omega)))<|WL.qcc rfl rfl rfl rfl (fun hc hx=>aa (aU hc hx) Fo.h) ?_
   replace hx:=(hx.m e1).m e2
   refine WL.qcc rfl rfl rfl rfl (fun hc hx=>ao Fb.h (aU hc hx) Xr (hA0.get (j:=0) rfl))<|WL.qcc rfl rfl rfl rfl (fun hc hx=>bn (aU hc hx) rfl)<|Hc rfl rfl (fun hc=>bU (au hc) rfl (fun h=>by first|(simp[*];done)|(exfalso;simp at h;done)|(simp_all;done)))<|Hg rfl rfl (cA rfl rfl (fun h=>beq_iff_eq.2 h))<|jC 1 rfl<|Hc rfl rfl (fun hc=>aa rfl Fo.h)<|Hk rfl rfl rfl hb1 rfl<|Hc rfl rfl (fun hc=>bd Fo.h (au hc) rfl rfl (by first|omega|(simp;done)|(simp;omega)))<|Hc rfl rfl (fun hc=>aa (au hc) Fo.h)<|Hc rfl rfl (fun hc=>ao Fb.h (au hc) Xr (hA0.get (j:=5) rfl))<|Hc rfl rfl (fun hc=>fy Fo.h (au hc))<|Hc rfl rfl (fun hc=>aS (au hc) rfl)<|Hg rfl rfl (cA rfl rfl (fun h=>beq_iff_eq.2 h))<|jC 2 rfl<|WC.cond rfl ?_ ?_
   ·intro h2
    refine jA 4 rfl<|WC.ret ?_
    replace he:=(he.t e1).t e2
    exact aw rfl ⟨false,rfl,fun h=>(by cases h),he⟩
   ·intro h2
    have hzd:zd=true:=by
     cases zd with
     |true=>rfl
     |false=>simp at h2
    have nD:=fun y=>hD1 y (nzd hzd)
    refine WC.skip<|jA 4 rfl<|ld rfl hb1 rfl<|jC 3 rfl<|jA 1 rfl ?_
    replace hK:=(hK.m e1).m e2
    replace hD:=hD.m e2
    replace hUT:=hUT.m e2
    replace hR1:=hR1.m e2
    replace he:=(he.t e1).t e2
    refine WC.loop2 (ι:=Nat) [(1,_),(2,_),(4,_),(147,_),(148,_)] (fun i=>[(149,.int .i64 (i:Int))]) (fun i wi=>(∀j,j<i→VF (bA ks j))∧i≤ks.length∧ay w2 wi) (fun i=>ks.length-i) 0 sb sb (⟨fun j hj=>absurd hj (by omega),Nat.zero_le _,ay.refl _⟩) ?_
    intro i wi1 hh;obtain⟨qS,ni,hE⟩:=hh
    rcases Nat.lt_or_ge i ks.length with qi|qi
    replace hK:=hK.m hE
    ·obtain⟨b',o1',c1,rfl,_,hA1,l3,hR3⟩:=hK.kid qi
     obtain⟨x0,x1,x2,x3,x4,x5,rfl⟩:=hR3.six
     have q1c:=hR3.one
     refine jA 2 rfl<|lT rfl rfl<|WL.nil<|jA 7 rfl<|ix rfl rfl rfl<|Hq (ad Fo.h rfl Xr hA1 (hn:=rfl)) ?_
     replace he:=he.t hE
     have hs3:=he.s
     replace hb1:=hb1.m hE
     have hx3b1:=hb1.lt
     refine Ha fun w3 hb3 e3=>?_
     refine Ho rfl rfl hb3 fun w4 hb3 e4 hz4=>?_
     refine WL.nil<|jA 2 rfl<|la rfl hb3<|jC 1 rfl<|Hq (bP rfl rfl rfl (by omega) (by omega)) ?_
     replace hUT:=(hUT.m hE).m (e3.t e4)
     replace hR3:=hR3.m (e3.t e4)
     refine cl rfl (hks _ (bf qi) _ _ _ _ hR3 (by have:=bo (bf qi);omega) hUT (by omega) (by omega)) ?_
     rintro v5 w5 ⟨zk,rfl,nzk,e5⟩
     refine jC 2 rfl<|WC.cond rfl ?_ ?_
     ·intro h4
      refine jA 4 rfl<|WC.ret ?_
      replace he:=(he.t (e3.t e4)).t e5
      exact aw rfl ⟨false,rfl,fun h=>(by cases h),he⟩
     ·intro h4
      have qT:∀j,j<i+1→VF (bA ks j):=fun j hj=>by
       exact AC
      refine WC.skip<|jA 1 rfl<|ai rfl rfl rfl<|jC 2 rfl ?_
      exact⟨i+1,sb,sb,⟨qT,qi,(((hE.t (e3.t e4)).t e5))⟩,by omega⟩
    ·replace hx:=hx.m hE
     have qA:∀x∈ks,VF x:=fun x hx=>by
      obtain⟨j,hj,rfl⟩:=iy hx
      exact qS j (by omega)
     refine jA 2 rfl<|lF rfl rfl<|WL.nil<|jA 2 rfl<|WC.exit<|jA 2 rfl ?_
     replace hb1:=hb1.m hE
     refine la rfl hb1 ?_
     replace hUT:=hUT.m hE
     refine cl rfl (jb hx (by omega) hUT q9' (by omega) (by omega) (fun h=>by omega)) ?_
     rintro v3 w3 ⟨zc,rfl,nzc,e3⟩
     refine jC 2 rfl<|WC.ret ?_
     replace he:=(he.t hE).t e3
     exact aw rfl ⟨zc,rfl,fin zc nzc qA nD,he⟩
  ·have nD:∀y∈d,VF y:=fun y hy=>by
    have:d=[]:=List.eq_nil_of_length_eq_zero (by omega)
    rw[this]at hy;cases hy
   refine WC.skip<|jA 4 rfl<|ld rfl hb1 rfl<|jC 1 rfl<|Hq (ae (ak rfl rfl) (bk (by(omega))))<|jC 36 rfl<|jA 2 rfl<|jA 4 rfl<|ld rfl hb1 rfl<|jC 3 rfl<|jA 1 rfl ?_
   replace hK:=hK.m e1
   replace hD:=hD.m e1
   replace hUT:=hUT.m e1
   replace hx:=hx.m e1
   replace he:=he.t e1
   refine WC.loop2 (ι:=Nat) [(1,_),(2,_),(4,_),(147,_),(148,_)] (fun i=>[(149,.int .i64 (i:Int))]) (fun i wi=>(∀j,j<i→VF (bA ks j))∧i≤ks.length∧ay w1 wi) (fun i=>ks.length-i) 0 sb sb (⟨fun j hj=>absurd hj (by omega),Nat.zero_le _,ay.refl _⟩) ?_
   intro i wi1 hh;obtain⟨qS,ni,hE⟩:=hh
   rcases Nat.lt_or_ge i ks.length with qi|qi
   replace hK:=hK.m hE
   ·obtain⟨b',o1',c1,rfl,_,hA1,l3,hR3⟩:=hK.kid qi
    obtain⟨x0,x1,x2,x3,x4,x5,rfl⟩:=hR3.six
    have q1c:=hR3.one
    refine jA 2 rfl<|lT rfl rfl<|WL.nil<|jA 7 rfl<|ix rfl rfl rfl<|Hq (ad Fo.h rfl Xr hA1 (hn:=rfl)) ?_
    replace he:=he.t hE
    have hs2:=he.s
    replace hb1:=hb1.m hE
    have hx2b1:=hb1.lt
    refine Ha fun w2 hb2 e2=>?_
    refine Ho rfl rfl hb2 fun w3 hb2 e3 hz3=>?_
    refine WL.nil<|jA 2 rfl<|la rfl hb2<|jC 1 rfl<|Hq (bP rfl rfl rfl (by omega) (by omega)) ?_
    replace hUT:=(hUT.m hE).m (e2.t e3)
    replace hR3:=hR3.m (e2.t e3)
    refine cl rfl (hks _ (bf qi) _ _ _ _ hR3 (by have:=bo (bf qi);omega) hUT (by omega) (by omega)) ?_
    rintro v4 w4 ⟨zk,rfl,nzk,e4⟩
    refine jC 2 rfl<|WC.cond rfl ?_ ?_
    ·intro h4
     refine jA 4 rfl<|WC.ret ?_
     replace he:=(he.t (e2.t e3)).t e4
     exact aw rfl ⟨false,rfl,fun h=>(by cases h),he⟩
    ·intro h4
     have qT:∀j,j<i+1→VF (bA ks j):=fun j hj=>by
      exact AC
     refine WC.skip<|jA 1 rfl<|ai rfl rfl rfl<|jC 2 rfl ?_
     exact⟨i+1,sb,sb,⟨qT,qi,(((hE.t (e2.t e3)).t e4))⟩,by omega⟩
   ·replace hx:=hx.m hE
    have qA:∀x∈ks,VF x:=fun x hx=>by
     obtain⟨j,hj,rfl⟩:=iy hx
     exact qS j (by omega)
    refine jA 2 rfl<|lF rfl rfl<|WL.nil<|jA 2 rfl<|WC.exit<|jA 2 rfl ?_
    replace hb1:=hb1.m hE
    refine la rfl hb1 ?_
    replace hUT:=hUT.m hE
    refine cl rfl (jb hx (by omega) hUT q9' (by omega) (by omega) (fun h=>by omega)) ?_
    rintro v2 w2 ⟨zc,rfl,nzc,e2⟩
    refine jC 2 rfl<|WC.ret ?_
    replace he:=(he.t hE).t e2
    exact aw rfl ⟨zc,rfl,fin zc nzc qA nD,he⟩
mutual
theorem GB:∀x:V,Ev x
 | .mk k n t ks o d=>Eh (Ei ks) (Ei d)
theorem Ei:∀l:List V,∀x∈l,Ev x
 |[],x,hx=>by cases hx
 |a::r,x,hx=>by
  rcases List.mem_cons.1 hx with e|hx
  ·exact e▸GB a
  ·exact Ei r x hx
end
theorem kJ{A:Nat→Prop}{x:V}{cx:List Value}{L:Int}{w:World}(hx:aC A w x cx)(hUT:UT w)(l0:0≤L)(l1:L≤1000):
  ah TP 39 [.agg cx.toArray,.int .i64 L] w fun r w'=>∃b,r= .bool b∧(b=true→VF x∧aE x≤2000)∧ay w w':=by
 obtain⟨x0,x1,x2,x3,x4,x5,rfl⟩:=hx.six
 have:=hUT.lt
 have hx0:=hx.weakenW (B:=fun b=>b<w.heap.size) (fun b hb _=>hb)
 refine aR Tryz.func39 ?_
 have he:=XI w
 refine jA 2 rfl ?_
 have:=he.s
 refine Hb rfl fun w1 hb1 e1=>?_
 refine jD 4 rfl ?_
 replace he:=he.t e1
 have:=he.s
 have:=hb1.lt
 refine Ha fun w2 hb2 e2=>?_
 refine Hp rfl rfl hb2 fun w3 hb2 e3 hz3=>?_
 refine jD 3 rfl ?_
 replace hb1:=hb1.m (e2.t e3)
 refine la rfl hb1 ?_
 replace hx0:=(hx0.m e1).m (e2.t e3)
 refine cl rfl (EY x _ _ _ _ (hx0.k fun b hb=>by have:=e1.s;omega) hb2 (by omega) (by omega)) ?_
 rintro v4 w4 ⟨zb,L',rfl,hb2,nb,e4⟩
 have ny:w.heap.size≤w1.heap.size:=e1.s
 rcases zb with _|_
 ·refine jC 7 rfl<|WC.ret ?_
  replace he:=(he.t (e2.t e3)).t e4
  exact aw rfl ⟨_,rfl,fun h=>(by cases h),he⟩
 ·have hvc:aE x≤2000:=by have:=nb rfl;omega
  refine jC 1 rfl ?_
  replace hb1:=hb1.m e4
  refine Hg rfl rfl (ad Fo.h rfl Xr hb1.at (hn:=by first|rfl|assumption))<|jC 1 rfl ?_
  replace hx0:=hx0.m e4
  replace hUT:=((hUT.m e1).m (e2.t e3)).m e4
  refine WL.lg rfl rfl rfl rfl (cD Fb.h rfl (GB x _ _ _ _ hx0 (by omega) hUT l0 l1)) ?_
  rintro v5 w5 ⟨zc,rfl,nc,e5⟩
  refine jC 3 rfl<|WC.ret ?_
  replace he:=((he.t (e2.t e3)).t e4).t e5
  exact aw rfl ⟨_,rfl,fun h=>⟨nc h,hvc⟩,he⟩
end Go.Proofs.LL
