/- Own laws of frames, operations and loops, and contracts of functions of the program. Conditions: those that each theorem states. -/
import Derived.Test.YtdgbmbjkbmpcbaaGreatDoorV35
set_option linter.all false
set_option maxRecDepth 20000
namespace Go.Proofs.LL
open Go Go.Proofs Go.RowKit
set_option maxHeartbeats 4000000
attribute [local irreducible] RunOp WL WC WDL WT WX
theorem kU{A:Prop}(h:A:=by
 rcases Nat.lt_or_ge j i with h|h
 ·exact qS j h
 ·obtain rfl:j=i:=by omega
  exact nzk (by simpa using h4)):A:=h
def p9(x:V):Prop:=∀(A:Nat→Prop) (cx:List Value) (L:Int) (w:World),ag A w x cx→ah x≤100000→UT w→0≤L→L≤1000→
 Does TP 68 [.agg cx.toArray,.int .i64 L] w fun r w'=>∃b,r= .bool b∧(b=true→VF x)∧Ext w w'
theorem rK{k:Int}{n:Nat}{t:List UInt8}{ks:List V}{o:Int}{d:List V}(h0:0≤k)(h1:k≤23)(h2:((k=21∨k=22)∨k=23)∨ks.length=0)(h3:((17≤k∧k≤20)∨k=14)∨t=[])(h4:((1≤k∧k≤16)∧k≠14)∨n=0)(h5:d.length≤1)(h6:ks.length≤1000)(h7:t.length≤131072)(hc:CF k n t ks)(hk:∀x∈ks,VF x)(hd:∀x∈d,VF x):VF (.mk k n t ks o d):=by
 rw[VF]
 refine⟨h0,h1,fun h=>?_,fun h=>?_,fun h=>?_,h5,h6,h7,hc,cr.of hk,cr.of hd⟩
 ·rcases h2 with h2|h2
  ·omega
  ·exact List.eq_nil_of_length_eq_zero h2
 ·rcases h3 with h3|h3
  ·omega
  ·exact h3
 ·rcases h4 with h4|h4
  ·omega
  ·exact h4
theorem pj{k:Int}{n:Nat}{t:List UInt8}{ks:List V}{o:Int}{d:List V}(hks:∀x∈ks,p9 x)(hds:∀x∈d,p9 x):p9 (.mk k n t ks o d):=by
 intro A cx L w hx hv hUT l0 l1
 obtain⟨pk,ck,pd,cd,rfl,_,_,hK,hD⟩:=hx.openV
 rw[ah]at hv
 have hkl:=ae ks
 refine do1 Tryz.func68 ?_
 have he:Evo (fun _=>True) w w:=Evo.refl w
 refine jA 2 rfl ?_
 have hs1:=he.size
 refine bx rfl ?_
 rintro _ w1 ⟨rfl,hb1,e1⟩
 refine jC 2 rfl<|jA 3 rfl<|ld rfl hb1 rfl<|WL.q rfl (r_eql rfl rfl)<|jC 1 rfl ?_
 refine WL.qc rfl rfl rfl rfl (fun hc=>r_fieldAddr rfl Fo.h) ?_
 refine WL.qc rfl rfl rfl rfl (fun hc=>r_load Fb.h (cnd_of hc) (Ext.refl _) (hb1.get rfl)) ?_
 refine WL.qc rfl rfl rfl rfl (fun hc=>r_eql (cnd_of hc) rfl) ?_
 refine WL.q rfl (r_or rfl rfl (fun h=>beq_iff_eq.2 h)) ?_
 refine jC 1 rfl ?_
 refine WL.qc rfl rfl rfl rfl (fun hc=>r_fieldAddr rfl Fo.h) ?_
 refine WL.qc rfl rfl rfl rfl (fun hc=>r_load Fb.h (cnd_of hc) (Ext.refl _) (hb1.get rfl)) ?_
 refine WL.qc rfl rfl rfl rfl (fun hc=>r_eql (cnd_of hc) rfl) ?_
 refine WL.q rfl (r_or rfl rfl (fun h=>beq_iff_eq.2 h)) ?_
 refine jC 2 rfl<|jA 3 rfl<|ld rfl hb1 rfl<|WL.q rfl (r_geq rfl rfl)<|jC 1 rfl ?_
 refine WL.qc rfl rfl rfl rfl (fun hc=>r_fieldAddr rfl Fo.h) ?_
 refine WL.qc rfl rfl rfl rfl (fun hc=>r_load Fb.h (cnd_of hc) (Ext.refl _) (hb1.get rfl)) ?_
 refine WL.qc rfl rfl rfl rfl (fun hc=>r_leq (cnd_of hc) rfl) ?_
 refine WL.q rfl (r_and rfl rfl (fun h=>beq_iff_eq.2 h)) ?_
 refine jC 1 rfl ?_
 refine WL.qc rfl rfl rfl rfl (fun hc=>r_fieldAddr rfl Fo.h) ?_
 refine WL.qc rfl rfl rfl rfl (fun hc=>r_load Fb.h (cnd_of hc) (Ext.refl _) (hb1.get rfl)) ?_
 refine WL.qc rfl rfl rfl rfl (fun hc=>r_eql (cnd_of hc) rfl) ?_
 refine WL.q rfl (r_or rfl rfl (fun h=>beq_iff_eq.2 h)) ?_
 refine jC 2 rfl<|jA 3 rfl<|ld rfl hb1 rfl<|WL.q rfl (r_geq rfl rfl)<|jC 1 rfl ?_
 refine WL.qc rfl rfl rfl rfl (fun hc=>r_fieldAddr rfl Fo.h) ?_
 refine WL.qc rfl rfl rfl rfl (fun hc=>r_load Fb.h (cnd_of hc) (Ext.refl _) (hb1.get rfl)) ?_
 refine WL.qc rfl rfl rfl rfl (fun hc=>r_leq (cnd_of hc) rfl) ?_
 refine WL.q rfl (r_and rfl rfl (fun h=>beq_iff_eq.2 h)) ?_
 refine jC 1 rfl ?_
 refine WL.qc rfl rfl rfl rfl (fun hc=>r_fieldAddr rfl Fo.h) ?_
 refine WL.qc rfl rfl rfl rfl (fun hc=>r_load Fb.h (cnd_of hc) (Ext.refl _) (hb1.get rfl)) ?_
 refine WL.qc rfl rfl rfl rfl (fun hc=>r_neq (cnd_of hc) rfl) ?_
 refine WL.q rfl (r_and rfl rfl (fun h=>beq_iff_eq.2 h)) ?_
 refine jC 2 rfl<|jA 4 rfl<|WL.q rfl (r_leq rfl rfl)<|jC 1 rfl ?_
 refine WL.qc rfl rfl rfl rfl (fun hc=>r_fieldAddr rfl Fo.h) ?_
 refine WL.qc rfl rfl rfl rfl (fun hc=>r_load Fb.h (cnd_of hc) (Ext.refl _) (hb1.get rfl)) ?_
 refine WL.qc rfl rfl rfl rfl (fun hc=>r_lss (cnd_of hc) rfl) ?_
 refine WL.q rfl (r_or rfl rfl (fun h=>beq_iff_eq.2 h)) ?_
 refine jC 1 rfl ?_
 refine WL.qc rfl rfl rfl rfl (fun hc=>r_fieldAddr rfl Fo.h) ?_
 refine WL.qc rfl rfl rfl rfl (fun hc=>r_load Fb.h (cnd_of hc) (Ext.refl _) (hb1.get rfl)) ?_
 refine WL.qc rfl rfl rfl rfl (fun hc=>r_geq (cnd_of hc) rfl) ?_
 refine WL.q rfl (r_or rfl rfl (fun h=>beq_iff_eq.2 h)) ?_
 refine jC 1 rfl ?_
 refine WL.qc rfl rfl rfl rfl (fun hc=>r_move rfl) ?_
 refine WL.qc rfl rfl rfl rfl (fun hc=>r_not (cnd_of hc)) ?_
 refine WL.qc rfl rfl rfl rfl (fun hc=>r_move (cnd_of hc)) ?_
 refine WL.qcc rfl rfl rfl rfl (fun hc hx=>r_fieldAddr rfl Fo.h) ?_
 refine WL.qcc rfl rfl rfl rfl (fun hc hx=>r_load Fb.h (cnd_and hc hx) (Ext.refl _) (hb1.get rfl)) ?_
 refine WL.qcc rfl rfl rfl rfl (fun hc hx=>r_len Fo.h (cnd_and hc hx)) ?_
 refine WL.qcc rfl rfl rfl rfl (fun hc hx=>r_gtr (cnd_and hc hx) rfl) ?_
 refine WL.qc rfl rfl rfl rfl (fun hc=>r_and (cnd_of hc) rfl (fun h=>by first|(simp[*];done)|(exfalso;simp at h;done)|(simp_all;done))) ?_
 refine WL.q rfl (r_or rfl rfl (fun h=>beq_iff_eq.2 h)) ?_
 refine jC 1 rfl ?_
 refine WL.qc rfl rfl rfl rfl (fun hc=>r_move rfl) ?_
 refine WL.qc rfl rfl rfl rfl (fun hc=>r_not (cnd_of hc)) ?_
 refine WL.qc rfl rfl rfl rfl (fun hc=>r_move (cnd_of hc)) ?_
 refine WL.qcc rfl rfl rfl rfl (fun hc hx=>r_fieldAddr rfl Fo.h) ?_
 refine WL.qcc rfl rfl rfl rfl (fun hc hx=>r_load Fb.h (cnd_and hc hx) (Ext.refl _) (hb1.get rfl)) ?_
 refine WL.qcc rfl rfl rfl rfl (fun hc hx=>r_stneE (cnd_and hc hx) rfl) ?_
 refine WL.qc rfl rfl rfl rfl (fun hc=>r_and (cnd_of hc) rfl (fun h=>by first|(simp[*];done)|(exfalso;simp at h;done)|(simp_all;done))) ?_
 refine WL.q rfl (r_or rfl rfl (fun h=>beq_iff_eq.2 h)) ?_
 refine jC 1 rfl ?_
 refine WL.qc rfl rfl rfl rfl (fun hc=>r_move rfl) ?_
 refine WL.qc rfl rfl rfl rfl (fun hc=>r_not (cnd_of hc)) ?_
 refine WL.qc rfl rfl rfl rfl (fun hc=>r_move (cnd_of hc)) ?_
 refine WL.qcc rfl rfl rfl rfl (fun hc hx=>r_fieldAddr rfl Fo.h) ?_
 refine WL.qcc rfl rfl rfl rfl (fun hc hx=>r_load Fb.h (cnd_and hc hx) (Ext.refl _) (hb1.get rfl)) ?_
 refine WL.qcc rfl rfl rfl rfl (fun hc hx=>r_neq (cnd_and hc hx) rfl) ?_
 refine WL.qc rfl rfl rfl rfl (fun hc=>r_and (cnd_of hc) rfl (fun h=>by first|(simp[*];done)|(exfalso;simp at h;done)|(simp_all;done))) ?_
 refine WL.q rfl (r_or rfl rfl (fun h=>beq_iff_eq.2 h)) ?_
 refine jC 1 rfl ?_
 refine WL.qc rfl rfl rfl rfl (fun hc=>r_fieldAddr rfl Fo.h) ?_
 refine WL.qc rfl rfl rfl rfl (fun hc=>r_load Fb.h (cnd_of hc) (Ext.refl _) (hb1.get rfl)) ?_
 refine WL.qc rfl rfl rfl rfl (fun hc=>r_len Fo.h (cnd_of hc)) ?_
 refine WL.qc rfl rfl rfl rfl (fun hc=>r_gtr (cnd_of hc) rfl) ?_
 refine WL.q rfl (r_or rfl rfl (fun h=>beq_iff_eq.2 h)) ?_
 refine jC 1 rfl ?_
 refine WL.qc rfl rfl rfl rfl (fun hc=>r_fieldAddr rfl Fo.h) ?_
 refine WL.qc rfl rfl rfl rfl (fun hc=>r_load Fb.h (cnd_of hc) (Ext.refl _) (hb1.get rfl)) ?_
 refine WL.qc rfl rfl rfl rfl (fun hc=>r_len Fo.h (cnd_of hc)) ?_
 refine WL.qc rfl rfl rfl rfl (fun hc=>r_gtr (cnd_of hc) rfl) ?_
 refine WL.q rfl (r_or rfl rfl (fun h=>beq_iff_eq.2 h)) ?_
 refine jC 1 rfl ?_
 refine WL.qc rfl rfl rfl rfl (fun hc=>r_fieldAddr rfl Fo.h) ?_
 refine WL.qc rfl rfl rfl rfl (fun hc=>r_load Fb.h (cnd_of hc) (Ext.refl _) (hb1.get rfl)) ?_
 refine WL.qc rfl rfl rfl rfl (fun hc=>r_lens Fb.h (cnd_of hc)) ?_
 refine WL.qc rfl rfl rfl rfl (fun hc=>r_gtr (cnd_of hc) rfl) ?_
 refine WL.q rfl (r_or rfl rfl (fun h=>beq_iff_eq.2 h)) ?_
 refine WL.nil ?_
 refine WC.cond rfl ?_ ?_
 ·intro hc
  refine jA 4 rfl<|WC.ret ?_
  replace he:=he.then e1
  exact fin1 rfl ⟨false,rfl,fun h=>(by cases h),he⟩
 ·intro hc
  simp only[Bool.or_eq_false_iff,Bool.and_eq_false_iff,Bool.not_eq_false',decide_eq_false_iff_not,Bool.or_eq_true,Bool.and_eq_true,decide_eq_true_eq,beq_iff_eq,bne_iff_ne,bne_eq_false_iff_eq,ne_eq]at hc
  obtain⟨⟨⟨⟨⟨⟨⟨⟨q1,q2⟩,q3⟩,q4⟩,q5⟩,q6⟩,q7⟩,q8⟩,q9⟩:=hc
  have q9':t.length≤131072:=by
   have:¬(131072:Int)<(t.length:Int):=q9
   omega
  have fin:∀(b:Bool),(b=true→CF k n t ks)→(∀x∈ks,VF x)→(∀x∈d,VF x)→b=true→VF (.mk k n t ks o d):=fun b hb h1 h2 hbt=>
   rK (by omega) (by omega) (q4.imp id (by omega)) q5 (q6.imp id (by omega)) (by omega) (by omega) q9' (hb hbt) h1 h2
  have loopQ:∀(L':Int),True:=fun _=>trivial
  rcases Decidable.em (d.length=1)with hd1|hd1
  replace hD:=hD.mono e1
  ·obtain⟨b,o1,c1,rfl,_,hA0,l2,hR0⟩:=hD.kid (i:=0) (by omega)
   rcases hf0:aq d 0 with⟨k0,n0,t0,ks0,oo0,d0⟩
   have hV0:=hds _ (ak (show 0<d.length by omega))
   have hm0:=an (ak (show 0<d.length by omega))
   have hD1:∀y,VF (aq d 0)→y∈d→VF y:=fun y h hy=>by
    obtain⟨j,hj,rfl⟩:=bV hy
    obtain rfl:j=0:=by omega
    exact h
   rw[hf0]at hR0 hV0 hm0 hD1
   have hR1:=hR0
   obtain⟨pk0,ck0,pd0,cd0,rfl,_,_,_,hD0⟩:=hR0.openV
   refine WC.skip<|jA 4 rfl<|ld rfl hb1 rfl<|jC 1 rfl ?_
   refine WL.q rfl (r_cmp (r_eql rfl rfl) (beqT (by(omega)))) ?_
   refine jC 2 rfl<|LL.lg rfl rfl rfl hb1 rfl ?_
   refine WL.qg rfl rfl rfl rfl (r_idx Fo.h rfl rfl rfl (by first|omega|(simp;done)|(simp;omega))) ?_
   refine WL.qg rfl rfl rfl rfl (r_loadAgg Fo.h rfl (Ext.refl _) hA0 (hn:=rfl))<|jC 1 rfl ?_
   refine WL.qg rfl rfl rfl rfl (r_subi rfl rfl rfl (by omega) (by omega)) ?_
   replace hUT:=hUT.mono e1
   refine WL.lg rfl rfl rfl rfl (l_do Fb.h rfl (hV0 _ _ _ _ hR1 (by omega) hUT (by omega) (by omega))) ?_
   rintro v2 w2 ⟨zd,rfl,nzd,e2⟩
   refine jC 2 rfl ?_
   refine WL.qc rfl rfl rfl rfl (fun hc=>r_fieldAddr rfl Fo.h) ?_
   replace hb1:=hb1.mono e2
   refine WL.qc rfl rfl rfl rfl (fun hc=>r_load Fb.h (cnd_of hc) (Ext.refl _) (hb1.get rfl)) ?_
   refine WL.qc rfl rfl rfl rfl (fun hc=>r_idx Fo.h (cnd_of hc) rfl rfl (by first|omega|(simp;done)|(simp;omega))) ?_
   refine WL.qc rfl rfl rfl rfl (fun hc=>r_fieldAddr (cnd_of hc) Fo.h) ?_
   replace hA0:=hA0.mono e2
   refine WL.qc rfl rfl rfl rfl (fun hc=>r_load Fb.h (cnd_of hc) (Ext.refl _) (hA0.get (j:=0) rfl)) ?_
   refine WL.qc rfl rfl rfl rfl (fun hc=>r_neq (cnd_of hc) rfl) ?_
   refine WL.qc rfl rfl rfl rfl (fun hc=>r_move (cnd_of hc)) ?_
   refine WL.qcc rfl rfl rfl rfl (fun hc hx=>r_fieldAddr rfl Fo.h) ?_
   refine WL.qcc rfl rfl rfl rfl (fun hc hx=>r_load Fb.h (cnd_and hc hx) (Ext.refl _) (hb1.get rfl)) ?_
   refine WL.qcc rfl rfl rfl rfl (fun hc hx=>r_idx Fo.h (cnd_and hc hx) rfl rfl (by first|omega|(simp;done)|(simp;omega))) ?_
   refine WL.qcc rfl rfl rfl rfl (fun hc hx=>r_fieldAddr (cnd_and hc hx) Fo.h) ?_
   replace hx:=(hx.mono e1).mono e2
   refine WL.qcc rfl rfl rfl rfl (fun hc hx=>r_load Fb.h (cnd_and hc hx) (Ext.refl _) (hA0.get (j:=0) rfl)) ?_
   refine WL.qcc rfl rfl rfl rfl (fun hc hx=>r_neq (cnd_and hc hx) rfl) ?_
   refine WL.qc rfl rfl rfl rfl (fun hc=>r_and (cnd_of hc) rfl (fun h=>by first|(simp[*];done)|(exfalso;simp at h;done)|(simp_all;done))) ?_
   refine WL.qg rfl rfl rfl rfl (r_or rfl rfl (fun h=>beq_iff_eq.2 h)) ?_
   refine jC 1 rfl ?_
   refine WL.qc rfl rfl rfl rfl (fun hc=>r_fieldAddr rfl Fo.h) ?_
   refine WL.qc rfl rfl rfl rfl (fun hc=>r_load Fb.h (cnd_of hc) (Ext.refl _) (hb1.get rfl)) ?_
   refine WL.qc rfl rfl rfl rfl (fun hc=>r_idx Fo.h (cnd_of hc) rfl rfl (by first|omega|(simp;done)|(simp;omega))) ?_
   refine WL.qc rfl rfl rfl rfl (fun hc=>r_fieldAddr (cnd_of hc) Fo.h) ?_
   refine WL.qc rfl rfl rfl rfl (fun hc=>r_load Fb.h (cnd_of hc) (Ext.refl _) (hA0.get (j:=5) rfl)) ?_
   refine WL.qc rfl rfl rfl rfl (fun hc=>r_len Fo.h (cnd_of hc)) ?_
   refine WL.qc rfl rfl rfl rfl (fun hc=>r_gtr (cnd_of hc) rfl) ?_
   refine WL.qg rfl rfl rfl rfl (r_or rfl rfl (fun h=>beq_iff_eq.2 h)) ?_
   refine jC 2 rfl ?_
   refine WC.cond rfl ?_ ?_
   ·intro h2
    refine jA 4 rfl<|WC.ret ?_
    replace he:=(he.then e1).then e2
    exact fin1 rfl ⟨false,rfl,fun h=>(by cases h),he⟩
   ·intro h2
    have hzd:zd=true:=by
     cases zd with
     |true=>rfl
     |false=>simp at h2
    have nD:=fun y=>hD1 y (nzd hzd)
    refine WC.skip<|jA 4 rfl<|ld rfl hb1 rfl<|jC 3 rfl<|jA 1 rfl ?_
    replace hK:=(hK.mono e1).mono e2
    replace hD:=hD.mono e2
    replace hUT:=hUT.mono e2
    replace hR1:=hR1.mono e2
    replace he:=(he.then e1).then e2
    refine WC.loop2 (ι:=Nat) [(1,_),(2,_),(4,_),(147,_),(148,_)] (fun i=>[(149,.int .i64 (i:Int))]) (fun i wi=>(∀j,j<i→VF (aq ks j))∧i≤ks.length∧Ext w2 wi) (fun i=>ks.length-i) 0 sb sb (⟨fun j hj=>absurd hj (by omega),Nat.zero_le _,Ext.refl _⟩) ?_
    intro i wi1 hh;obtain⟨qS,ni,hE⟩:=hh
    rcases Nat.lt_or_ge i ks.length with qi|qi
    replace hK:=hK.mono hE
    ·obtain⟨b',o1',c1,rfl,_,hA1,l3,hR3⟩:=hK.kid qi
     obtain⟨x0,x1,x2,x3,x4,x5,rfl⟩:=hR3.six
     have q1c:=hR3.one
     refine jA 2 rfl<|lT rfl rfl<|WL.nil<|jA 7 rfl<|ix rfl rfl rfl<|WL.q rfl (r_loadAgg Fo.h rfl (Ext.refl _) hA1 (hn:=rfl)) ?_
     replace he:=he.then hE
     have hs3:=he.size
     replace hb1:=hb1.mono hE
     have hx3b1:=hb1.lt
     refine al ?_
     rintro _ w3 ⟨rfl,hb3,e3⟩
     refine WL.l0 (lsw rfl rfl hb3) ?_
     rintro _ w4 ⟨hb3,e4,hz4⟩
     refine WL.nil<|jA 2 rfl<|la rfl hb3<|jC 1 rfl ?_
     refine WL.q rfl (r_subi rfl rfl rfl (by omega) (by omega)) ?_
     replace hUT:=(hUT.mono hE).mono (e3.then e4)
     replace hR3:=hR3.mono (e3.then e4)
     refine cl rfl (hks _ (ak qi) _ _ _ _ hR3 (by have:=an (ak qi);omega) hUT (by omega) (by omega)) ?_
     rintro v5 w5 ⟨zk,rfl,nzk,e5⟩
     refine jC 2 rfl ?_
     refine WC.cond rfl ?_ ?_
     ·intro h4
      refine jA 4 rfl<|WC.ret ?_
      replace he:=(he.then (e3.then e4)).then e5
      exact fin1 rfl ⟨false,rfl,fun h=>(by cases h),he⟩
     ·intro h4
      have qT:∀j,j<i+1→VF (aq ks j):=fun j hj=>by
       exact kU
      refine WC.skip<|jA 1 rfl<|ai rfl rfl rfl<|jC 2 rfl ?_
      exact⟨i+1,sb,sb,⟨qT,qi,(((hE.then (e3.then e4)).then e5))⟩,by omega⟩
    ·replace hx:=hx.mono hE
     have qA:∀x∈ks,VF x:=fun x hx=>by
      obtain⟨j,hj,rfl⟩:=bV hx
      exact qS j (by omega)
     refine jA 2 rfl<|lF rfl rfl<|WL.nil<|jA 2 rfl<|WC.exit<|jA 2 rfl ?_
     replace hb1:=hb1.mono hE
     refine la rfl hb1 ?_
     replace hUT:=hUT.mono hE
     refine cl rfl (cE hx (by omega) hUT q9' (by omega) (by omega) (fun h=>by omega)) ?_
     rintro v3 w3 ⟨zc,rfl,nzc,e3⟩
     refine jC 2 rfl<|WC.ret ?_
     replace he:=(he.then hE).then e3
     exact fin1 rfl ⟨zc,rfl,fin zc nzc qA nD,he⟩
  ·have nD:∀y∈d,VF y:=fun y hy=>by
    have:d=[]:=List.eq_nil_of_length_eq_zero (by omega)
    rw[this]at hy;cases hy
   refine WC.skip<|jA 4 rfl<|ld rfl hb1 rfl<|jC 1 rfl ?_
   refine WL.q rfl (r_cmp (r_eql rfl rfl) (beqF (by(omega)))) ?_
   refine jC 36 rfl<|jA 2 rfl<|jA 4 rfl<|ld rfl hb1 rfl<|jC 3 rfl<|jA 1 rfl ?_
   replace hK:=hK.mono e1
   replace hD:=hD.mono e1
   replace hUT:=hUT.mono e1
   replace hx:=hx.mono e1
   replace he:=he.then e1
   refine WC.loop2 (ι:=Nat) [(1,_),(2,_),(4,_),(147,_),(148,_)] (fun i=>[(149,.int .i64 (i:Int))]) (fun i wi=>(∀j,j<i→VF (aq ks j))∧i≤ks.length∧Ext w1 wi) (fun i=>ks.length-i) 0 sb sb (⟨fun j hj=>absurd hj (by omega),Nat.zero_le _,Ext.refl _⟩) ?_
   intro i wi1 hh;obtain⟨qS,ni,hE⟩:=hh
   rcases Nat.lt_or_ge i ks.length with qi|qi
   replace hK:=hK.mono hE
   ·obtain⟨b',o1',c1,rfl,_,hA1,l3,hR3⟩:=hK.kid qi
    obtain⟨x0,x1,x2,x3,x4,x5,rfl⟩:=hR3.six
    have q1c:=hR3.one
    refine jA 2 rfl<|lT rfl rfl<|WL.nil<|jA 7 rfl<|ix rfl rfl rfl<|WL.q rfl (r_loadAgg Fo.h rfl (Ext.refl _) hA1 (hn:=rfl)) ?_
    replace he:=he.then hE
    have hs2:=he.size
    replace hb1:=hb1.mono hE
    have hx2b1:=hb1.lt
    refine al ?_
    rintro _ w2 ⟨rfl,hb2,e2⟩
    refine WL.l0 (lsw rfl rfl hb2) ?_
    rintro _ w3 ⟨hb2,e3,hz3⟩
    refine WL.nil<|jA 2 rfl<|la rfl hb2<|jC 1 rfl ?_
    refine WL.q rfl (r_subi rfl rfl rfl (by omega) (by omega)) ?_
    replace hUT:=(hUT.mono hE).mono (e2.then e3)
    replace hR3:=hR3.mono (e2.then e3)
    refine cl rfl (hks _ (ak qi) _ _ _ _ hR3 (by have:=an (ak qi);omega) hUT (by omega) (by omega)) ?_
    rintro v4 w4 ⟨zk,rfl,nzk,e4⟩
    refine jC 2 rfl ?_
    refine WC.cond rfl ?_ ?_
    ·intro h4
     refine jA 4 rfl<|WC.ret ?_
     replace he:=(he.then (e2.then e3)).then e4
     exact fin1 rfl ⟨false,rfl,fun h=>(by cases h),he⟩
    ·intro h4
     have qT:∀j,j<i+1→VF (aq ks j):=fun j hj=>by
      exact kU
     refine WC.skip<|jA 1 rfl<|ai rfl rfl rfl<|jC 2 rfl ?_
     exact⟨i+1,sb,sb,⟨qT,qi,(((hE.then (e2.then e3)).then e4))⟩,by omega⟩
   ·replace hx:=hx.mono hE
    have qA:∀x∈ks,VF x:=fun x hx=>by
     obtain⟨j,hj,rfl⟩:=bV hx
     exact qS j (by omega)
    refine jA 2 rfl<|lF rfl rfl<|WL.nil<|jA 2 rfl<|WC.exit<|jA 2 rfl ?_
    replace hb1:=hb1.mono hE
    refine la rfl hb1 ?_
    replace hUT:=hUT.mono hE
    refine cl rfl (cE hx (by omega) hUT q9' (by omega) (by omega) (fun h=>by omega)) ?_
    rintro v2 w2 ⟨zc,rfl,nzc,e2⟩
    refine jC 2 rfl<|WC.ret ?_
    replace he:=(he.then hE).then e2
    exact fin1 rfl ⟨zc,rfl,fin zc nzc qA nD,he⟩
mutual
theorem sI:∀x:V,p9 x
 | .mk k n t ks o d=>pj (pJ ks) (pJ d)
theorem pJ:∀l:List V,∀x∈l,p9 x
 |[],x,hx=>by cases hx
 |a::r,x,hx=>by
  rcases List.mem_cons.1 hx with e|hx
  ·exact e▸sI a
  ·exact pJ r x hx
end
theorem dz{A:Nat→Prop}{x:V}{cx:List Value}{L:Int}{w:World}(hx:ag A w x cx)(hUT:UT w)(l0:0≤L)(l1:L≤1000):
  Does TP 39 [.agg cx.toArray,.int .i64 L] w fun r w'=>∃b,r= .bool b∧(b=true→VF x∧ah x≤2000)∧Ext w w':=by
 obtain⟨x0,x1,x2,x3,x4,x5,rfl⟩:=hx.six
 have hUTl:=hUT.lt
 have hx0:=hx.weakenW (B:=fun b=>b<w.heap.size) (fun b hb _=>hb)
 refine do1 Tryz.func39 ?_
 have he:Evo (fun _=>True) w w:=Evo.refl w
 refine jA 2 rfl ?_
 have hs1:=he.size
 refine bx rfl ?_
 rintro _ w1 ⟨rfl,hb1,e1⟩
 refine jD 4 rfl ?_
 replace he:=he.then e1
 have hs2:=he.size
 have hx2b1:=hb1.lt
 refine al ?_
 rintro _ w2 ⟨rfl,hb2,e2⟩
 refine WL.l0 (lst rfl rfl hb2) ?_
 rintro _ w3 ⟨hb2,e3,hz3⟩
 refine jD 3 rfl ?_
 replace hb1:=hb1.mono (e2.then e3)
 refine la rfl hb1 ?_
 replace hx0:=(hx0.mono e1).mono (e2.then e3)
 refine cl rfl (ru x _ _ _ _ (hx0.weaken fun b hb=>by have:=e1.size;omega) hb2 (by omega) (by omega)) ?_
 rintro v4 w4 ⟨zb,L',rfl,hb2,nb,e4⟩
 have ny:w.heap.size≤w1.heap.size:=e1.size
 rcases zb with _|_
 ·refine jC 7 rfl<|WC.ret ?_
  replace he:=(he.then (e2.then e3)).then e4
  exact fin1 rfl ⟨_,rfl,fun h=>(by cases h),he⟩
 ·have hvc:ah x≤2000:=by have:=nb rfl;omega
  refine jC 1 rfl ?_
  replace hb1:=hb1.mono e4
  refine WL.qg rfl rfl rfl rfl (r_loadAgg Fo.h rfl (Ext.refl _) hb1.at (hn:=by first|rfl|assumption)) ?_
  refine jC 1 rfl ?_
  replace hx0:=hx0.mono e4
  replace hUT:=((hUT.mono e1).mono (e2.then e3)).mono e4
  refine WL.lg rfl rfl rfl rfl (l_do Fb.h rfl (sI x _ _ _ _ hx0 (by omega) hUT l0 l1)) ?_
  rintro v5 w5 ⟨zc,rfl,nc,e5⟩
  refine jC 3 rfl<|WC.ret ?_
  replace he:=((he.then (e2.then e3)).then e4).then e5
  exact fin1 rfl ⟨_,rfl,fun h=>⟨nc h,hvc⟩,he⟩
end Go.Proofs.LL
