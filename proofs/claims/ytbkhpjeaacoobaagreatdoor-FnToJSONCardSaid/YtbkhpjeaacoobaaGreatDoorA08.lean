/- Contracts of functions and own laws. Conditions: those that each theorem states. -/
import Derived.Test.YtbkhpjeaacoobaaGreatDoorA07
import Derived.Laws.BitsLemmas
set_option linter.all false
set_option maxRecDepth 20000
namespace Go.Proofs.LL
open Go Go.Proofs Go.RowKit
theorem body_15:bodyB Tryz.prog 15=true:=by kernel_rfl
theorem fo_25_0:fOff Tryz.prog 25 0=some 0:=by kernel_rfl
theorem fo_25_1:fOff Tryz.prog 25 1=some 1:=by kernel_rfl
theorem fo_25_2:fOff Tryz.prog 25 2=some 2:=by kernel_rfl
theorem fo_25_3:fOff Tryz.prog 25 3=some 3:=by kernel_rfl
theorem one_22:oneT Tryz.prog 22=true:=by kernel_rfl
theorem one_9:oneT Tryz.prog 9=true:=by kernel_rfl
theorem str_9:strT Tryz.prog 9=true:=by kernel_rfl
theorem sz_25:szT Tryz.prog 25=some 5:=by kernel_rfl
theorem zt_25:zeroT Tryz.prog 25=some (.agg #[.int .i64 0,.int .u64 0,.string ⟨#[]⟩,.int .i64 0,.slice none 0 0]):=by kernel_rfl
mutual
def Fits:Int→Pk→Prop
  |L,.mk k n t e ks=>0≤k∧k≤10∧((k≠8∧k≠9)→ks=[])∧((k≠6∧k≠7∧k≠10)→t=[])∧((k=0∨6≤k)→n=0)∧(k≠10→e=0)∧(k=1→n≤1)∧(k=9→ks.length%2=0)∧ks.length≤2000∧t.length≤131072∧0<L∧FitsL (L-1) ks
def FitsL:Int→List Pk→Prop
  |_,[]=>True
  |L,x::r=>Fits L x∧FitsL L r
end
theorem FitsL.of{L:Int}:∀ {l:List Pk},(∀x∈l,Fits L x)→FitsL L l
  |[],_=>by rw[FitsL];trivial
  |a::r,h=>by rw[FitsL];exact⟨h a (by simp),FitsL.of fun x hx=>h x (by simp[hx])⟩
theorem FitsL.mem{L:Int}:∀ {l:List Pk},FitsL L l→∀x∈l,Fits L x
  |[],_,x,hx=>by cases hx
  |a::r,h,x,hx=>by
    rw[FitsL]at h
    rcases List.mem_cons.1 hx with e|hx
    · exact e▸h.1
    · exact h.2.mem x hx
def FitS(x:Pk):Prop:=∀(A:Nat→Prop) (cx:List Value) (L:Int) (w:World),RepP A w x cx→pcount x≤100000→0≤L→L≤1000→
  Does Tryz.prog 15 [.agg cx.toArray,.int .i64 L] w fun r w'=>∃b,r= .bool b∧(b=true→Fits L x)∧Ext w w'
theorem fit_one{k:Int}{n:Nat}{t:List UInt8}{o:Int}{ks:List Pk}(hks:∀x∈ks,FitS x):FitS (.mk k n t o ks):=by
  intro A cx L w hx hv l0 l1
  obtain⟨pk,ck,rfl,_,hK⟩:=hx.openP
  rw[pcount]at hv
  have hkl:=pcountL_len ks
  refine does1 Tryz.func15 rfl rfl rfl ?_
  have he:Evo (fun _=>True) w w:=Evo.refl w
  refine WC.seq<|WC.region ?_
  have hs1:=he.size
  refine WL.l rfl (l_boxAgg rfl) fun _ w1 hh=>?_
  obtain⟨rfl,hb1,e1⟩:=hh
  refine WL.q rfl (r_assign rfl) ?_
  refine WL.nil ?_
  refine WC.seq<|WC.region ?_
  refine WL.q rfl (r_fieldAddr rfl fo_25_0) ?_
  refine WL.q rfl (r_load one_3 rfl (Ext.refl _) (hb1.get rfl)) ?_
  refine WL.q rfl (r_eql rfl rfl) ?_
  refine WL.q rfl (r_move rfl) ?_
  refine WL.qc rfl rfl rfl rfl (fun hc=>r_fieldAddr rfl fo_25_0) ?_
  refine WL.qc rfl rfl rfl rfl (fun hc=>r_load one_3 (cnd_of hc) (Ext.refl _) (hb1.get rfl)) ?_
  refine WL.qc rfl rfl rfl rfl (fun hc=>r_eql (cnd_of hc) rfl) ?_
  refine WL.q rfl (r_or rfl rfl (fun h=>beq_iff_eq.2 h)) ?_
  refine WL.q rfl (r_assign rfl) ?_
  refine WL.nil ?_
  refine WC.seq<|WC.region ?_
  refine WL.q rfl (r_fieldAddr rfl fo_25_0) ?_
  refine WL.q rfl (r_load one_3 rfl (Ext.refl _) (hb1.get rfl)) ?_
  refine WL.q rfl (r_eql rfl rfl) ?_
  refine WL.q rfl (r_move rfl) ?_
  refine WL.qc rfl rfl rfl rfl (fun hc=>r_fieldAddr rfl fo_25_0) ?_
  refine WL.qc rfl rfl rfl rfl (fun hc=>r_load one_3 (cnd_of hc) (Ext.refl _) (hb1.get rfl)) ?_
  refine WL.qc rfl rfl rfl rfl (fun hc=>r_eql (cnd_of hc) rfl) ?_
  refine WL.q rfl (r_or rfl rfl (fun h=>beq_iff_eq.2 h)) ?_
  refine WL.q rfl (r_move rfl) ?_
  refine WL.qc rfl rfl rfl rfl (fun hc=>r_fieldAddr rfl fo_25_0) ?_
  refine WL.qc rfl rfl rfl rfl (fun hc=>r_load one_3 (cnd_of hc) (Ext.refl _) (hb1.get rfl)) ?_
  refine WL.qc rfl rfl rfl rfl (fun hc=>r_eql (cnd_of hc) rfl) ?_
  refine WL.q rfl (r_or rfl rfl (fun h=>beq_iff_eq.2 h)) ?_
  refine WL.q rfl (r_assign rfl) ?_
  refine WL.nil ?_
  refine WC.seq<|WC.region ?_
  refine WL.q rfl (r_fieldAddr rfl fo_25_0) ?_
  refine WL.q rfl (r_load one_3 rfl (Ext.refl _) (hb1.get rfl)) ?_
  refine WL.q rfl (r_geq rfl rfl) ?_
  refine WL.q rfl (r_move rfl) ?_
  refine WL.qc rfl rfl rfl rfl (fun hc=>r_fieldAddr rfl fo_25_0) ?_
  refine WL.qc rfl rfl rfl rfl (fun hc=>r_load one_3 (cnd_of hc) (Ext.refl _) (hb1.get rfl)) ?_
  refine WL.qc rfl rfl rfl rfl (fun hc=>r_leq (cnd_of hc) rfl) ?_
  refine WL.q rfl (r_and rfl rfl (fun h=>beq_iff_eq.2 h)) ?_
  refine WL.q rfl (r_assign rfl) ?_
  refine WL.nil ?_
  refine WC.seq<|WC.seq<|WC.region ?_
  refine WL.q rfl (r_move rfl) ?_
  refine WL.q rfl (r_leq rfl rfl) ?_
  refine WL.q rfl (r_move rfl) ?_
  refine WL.qc rfl rfl rfl rfl (fun hc=>r_fieldAddr rfl fo_25_0) ?_
  refine WL.qc rfl rfl rfl rfl (fun hc=>r_load one_3 (cnd_of hc) (Ext.refl _) (hb1.get rfl)) ?_
  refine WL.qc rfl rfl rfl rfl (fun hc=>r_lss (cnd_of hc) rfl) ?_
  refine WL.q rfl (r_or rfl rfl (fun h=>beq_iff_eq.2 h)) ?_
  refine WL.q rfl (r_move rfl) ?_
  refine WL.qc rfl rfl rfl rfl (fun hc=>r_fieldAddr rfl fo_25_0) ?_
  refine WL.qc rfl rfl rfl rfl (fun hc=>r_load one_3 (cnd_of hc) (Ext.refl _) (hb1.get rfl)) ?_
  refine WL.qc rfl rfl rfl rfl (fun hc=>r_geq (cnd_of hc) rfl) ?_
  refine WL.q rfl (r_or rfl rfl (fun h=>beq_iff_eq.2 h)) ?_
  refine WL.q rfl (r_move rfl) ?_
  refine WL.qc rfl rfl rfl rfl (fun hc=>r_move rfl) ?_
  refine WL.qc rfl rfl rfl rfl (fun hc=>r_not (cnd_of hc)) ?_
  refine WL.qc rfl rfl rfl rfl (fun hc=>r_move (cnd_of hc)) ?_
  refine WL.qcc rfl rfl rfl rfl (fun hc hx=>r_fieldAddr rfl fo_25_4) ?_
  refine WL.qcc rfl rfl rfl rfl (fun hc hx=>r_load one_23 (cnd_and hc hx) (Ext.refl _) (hb1.get rfl)) ?_
  refine WL.qcc rfl rfl rfl rfl (fun hc hx=>r_len sl_23 (cnd_and hc hx)) ?_
  refine WL.qcc rfl rfl rfl rfl (fun hc hx=>r_gtr (cnd_and hc hx) rfl) ?_
  refine WL.qc rfl rfl rfl rfl (fun hc=>r_and (cnd_of hc) rfl (fun h=>by first|(simp[*];done)|(exfalso;simp at h;done)|(simp_all;done))) ?_
  refine WL.q rfl (r_or rfl rfl (fun h=>beq_iff_eq.2 h)) ?_
  refine WL.q rfl (r_move rfl) ?_
  refine WL.qc rfl rfl rfl rfl (fun hc=>r_move rfl) ?_
  refine WL.qc rfl rfl rfl rfl (fun hc=>r_not (cnd_of hc)) ?_
  refine WL.qc rfl rfl rfl rfl (fun hc=>r_move (cnd_of hc)) ?_
  refine WL.qcc rfl rfl rfl rfl (fun hc hx=>r_fieldAddr rfl fo_25_2) ?_
  refine WL.qcc rfl rfl rfl rfl (fun hc hx=>r_load one_9 (cnd_and hc hx) (Ext.refl _) (hb1.get rfl)) ?_
  refine WL.qcc rfl rfl rfl rfl (fun hc hx=>r_stneE (cnd_and hc hx) rfl) ?_
  refine WL.qc rfl rfl rfl rfl (fun hc=>r_and (cnd_of hc) rfl (fun h=>by first|(simp[*];done)|(exfalso;simp at h;done)|(simp_all;done))) ?_
  refine WL.q rfl (r_or rfl rfl (fun h=>beq_iff_eq.2 h)) ?_
  refine WL.q rfl (r_move rfl) ?_
  refine WL.qc rfl rfl rfl rfl (fun hc=>r_move rfl) ?_
  refine WL.qc rfl rfl rfl rfl (fun hc=>r_not (cnd_of hc)) ?_
  refine WL.qc rfl rfl rfl rfl (fun hc=>r_move (cnd_of hc)) ?_
  refine WL.qcc rfl rfl rfl rfl (fun hc hx=>r_fieldAddr rfl fo_25_1) ?_
  refine WL.qcc rfl rfl rfl rfl (fun hc hx=>r_load one_22 (cnd_and hc hx) (Ext.refl _) (hb1.get rfl)) ?_
  refine WL.qcc rfl rfl rfl rfl (fun hc hx=>r_neq (cnd_and hc hx) rfl) ?_
  refine WL.qc rfl rfl rfl rfl (fun hc=>r_and (cnd_of hc) rfl (fun h=>by first|(simp[*];done)|(exfalso;simp at h;done)|(simp_all;done))) ?_
  refine WL.q rfl (r_or rfl rfl (fun h=>beq_iff_eq.2 h)) ?_
  refine WL.q rfl (r_move rfl) ?_
  refine WL.qc rfl rfl rfl rfl (fun hc=>r_fieldAddr rfl fo_25_0) ?_
  refine WL.qc rfl rfl rfl rfl (fun hc=>r_load one_3 (cnd_of hc) (Ext.refl _) (hb1.get rfl)) ?_
  refine WL.qc rfl rfl rfl rfl (fun hc=>r_neq (cnd_of hc) rfl) ?_
  refine WL.qc rfl rfl rfl rfl (fun hc=>r_move (cnd_of hc)) ?_
  refine WL.qcc rfl rfl rfl rfl (fun hc hx=>r_fieldAddr rfl fo_25_3) ?_
  refine WL.qcc rfl rfl rfl rfl (fun hc hx=>r_load one_3 (cnd_and hc hx) (Ext.refl _) (hb1.get rfl)) ?_
  refine WL.qcc rfl rfl rfl rfl (fun hc hx=>r_neq (cnd_and hc hx) rfl) ?_
  refine WL.qc rfl rfl rfl rfl (fun hc=>r_and (cnd_of hc) rfl (fun h=>by first|(simp[*];done)|(exfalso;simp at h;done)|(simp_all;done))) ?_
  refine WL.q rfl (r_or rfl rfl (fun h=>beq_iff_eq.2 h)) ?_
  refine WL.q rfl (r_move rfl) ?_
  refine WL.qc rfl rfl rfl rfl (fun hc=>r_fieldAddr rfl fo_25_3) ?_
  refine WL.qc rfl rfl rfl rfl (fun hc=>r_load one_3 (cnd_of hc) (Ext.refl _) (hb1.get rfl)) ?_
  refine WL.qc rfl rfl rfl rfl (fun hc=>r_lss (cnd_of hc) rfl) ?_
  refine WL.q rfl (r_or rfl rfl (fun h=>beq_iff_eq.2 h)) ?_
  refine WL.q rfl (r_move rfl) ?_
  refine WL.qc rfl rfl rfl rfl (fun hc=>r_fieldAddr rfl fo_25_3) ?_
  refine WL.qc rfl rfl rfl rfl (fun hc=>r_load one_3 (cnd_of hc) (Ext.refl _) (hb1.get rfl)) ?_
  refine WL.qc rfl rfl rfl rfl (fun hc=>r_gtr (cnd_of hc) rfl) ?_
  refine WL.q rfl (r_or rfl rfl (fun h=>beq_iff_eq.2 h)) ?_
  refine WL.nil ?_
  refine WC.cond rfl ?_ ?_
  · intro hc
    refine WC.seq<|WC.region ?_
    refine WL.q rfl (r_assign rfl) ?_
    refine WL.nil ?_
    refine WC.ret ?_
    replace he:=he.then e1
    exact fin1 rfl ⟨false,rfl,fun h=>(by cases h),he⟩
  · intro hc
    refine WC.skip ?_
    refine WC.seq<|WC.seq<|WC.region ?_
    refine WL.q rfl (r_fieldAddr rfl fo_25_0) ?_
    refine WL.q rfl (r_load one_3 rfl (Ext.refl _) (hb1.get rfl)) ?_
    refine WL.q rfl (r_eql rfl rfl) ?_
    refine WL.q rfl (r_move rfl) ?_
    refine WL.qc rfl rfl rfl rfl (fun hc=>r_fieldAddr rfl fo_25_1) ?_
    refine WL.qc rfl rfl rfl rfl (fun hc=>r_load one_22 (cnd_of hc) (Ext.refl _) (hb1.get rfl)) ?_
    refine WL.qc rfl rfl rfl rfl (fun hc=>r_gtr (cnd_of hc) rfl) ?_
    refine WL.q rfl (r_and rfl rfl (fun h=>beq_iff_eq.2 h)) ?_
    refine WL.q rfl (r_move rfl) ?_
    refine WL.qc rfl rfl rfl rfl (fun hc=>r_fieldAddr rfl fo_25_0) ?_
    refine WL.qc rfl rfl rfl rfl (fun hc=>r_load one_3 (cnd_of hc) (Ext.refl _) (hb1.get rfl)) ?_
    refine WL.qc rfl rfl rfl rfl (fun hc=>r_eql (cnd_of hc) rfl) ?_
    refine WL.qc rfl rfl rfl rfl (fun hc=>r_move (cnd_of hc)) ?_
    refine WL.qcc rfl rfl rfl rfl (fun hc hx=>r_fieldAddr rfl fo_25_1) ?_
    refine WL.qcc rfl rfl rfl rfl (fun hc hx=>r_load one_22 (cnd_and hc hx) (Ext.refl _) (hb1.get rfl)) ?_
    refine WL.qcc rfl rfl rfl rfl (fun hc hx=>r_shr (cnd_and hc hx) rfl (by decide)) ?_
    refine WL.qcc rfl rfl rfl rfl (fun hc hx=>r_gtr (cnd_and hc hx) rfl) ?_
    refine WL.qc rfl rfl rfl rfl (fun hc=>r_and (cnd_of hc) rfl (fun h=>by first|(simp[*];done)|(exfalso;simp at h;done)|(simp_all;done))) ?_
    refine WL.q rfl (r_or rfl rfl (fun h=>beq_iff_eq.2 h)) ?_
    refine WL.q rfl (r_move rfl) ?_
    refine WL.qc rfl rfl rfl rfl (fun hc=>r_fieldAddr rfl fo_25_0) ?_
    refine WL.qc rfl rfl rfl rfl (fun hc=>r_load one_3 (cnd_of hc) (Ext.refl _) (hb1.get rfl)) ?_
    refine WL.qc rfl rfl rfl rfl (fun hc=>r_eql (cnd_of hc) rfl) ?_
    refine WL.qc rfl rfl rfl rfl (fun hc=>r_move (cnd_of hc)) ?_
    refine WL.qcc rfl rfl rfl rfl (fun hc hx=>r_fieldAddr rfl fo_25_4) ?_
    refine WL.qcc rfl rfl rfl rfl (fun hc hx=>r_load one_23 (cnd_and hc hx) (Ext.refl _) (hb1.get rfl)) ?_
    refine WL.qcc rfl rfl rfl rfl (fun hc hx=>r_len sl_23 (cnd_and hc hx)) ?_
    refine WL.qcc rfl rfl rfl rfl (fun hc hx=>r_rem (by decide) (cnd_and hc hx) rfl) ?_
    refine WL.qcc rfl rfl rfl rfl (fun hc hx=>r_eql (cnd_and hc hx) rfl) ?_
    refine WL.qc rfl rfl rfl rfl (fun hc=>r_and (cnd_of hc) rfl (fun h=>by first|(simp[*];done)|(exfalso;simp at h;done)|(simp_all;done))) ?_
    refine WL.q rfl (r_or rfl rfl (fun h=>beq_iff_eq.2 h)) ?_
    refine WL.q rfl (r_move rfl) ?_
    refine WL.qc rfl rfl rfl rfl (fun hc=>r_fieldAddr rfl fo_25_4) ?_
    refine WL.qc rfl rfl rfl rfl (fun hc=>r_load one_23 (cnd_of hc) (Ext.refl _) (hb1.get rfl)) ?_
    refine WL.qc rfl rfl rfl rfl (fun hc=>r_len sl_23 (cnd_of hc)) ?_
    refine WL.qc rfl rfl rfl rfl (fun hc=>r_gtr (cnd_of hc) rfl) ?_
    refine WL.q rfl (r_or rfl rfl (fun h=>beq_iff_eq.2 h)) ?_
    refine WL.q rfl (r_move rfl) ?_
    refine WL.qc rfl rfl rfl rfl (fun hc=>r_fieldAddr rfl fo_25_2) ?_
    refine WL.qc rfl rfl rfl rfl (fun hc=>r_load one_9 (cnd_of hc) (Ext.refl _) (hb1.get rfl)) ?_
    refine WL.qc rfl rfl rfl rfl (fun hc=>r_lens str_9 (cnd_of hc)) ?_
    refine WL.qc rfl rfl rfl rfl (fun hc=>r_gtr (cnd_of hc) rfl) ?_
    refine WL.q rfl (r_or rfl rfl (fun h=>beq_iff_eq.2 h)) ?_
    refine WL.nil ?_
    refine WC.cond rfl ?_ ?_
    · intro hc2
      refine WC.seq<|WC.region ?_
      refine WL.q rfl (r_assign rfl) ?_
      refine WL.nil ?_
      refine WC.ret ?_
      replace he:=he.then e1
      exact fin1 rfl ⟨false,rfl,fun h=>(by cases h),he⟩
    · intro hc2
      refine WC.skip ?_
      refine WC.seq<|WC.seq<|WC.region ?_
      refine WL.q rfl (r_fieldAddr rfl fo_25_4) ?_
      refine WL.q rfl (r_load one_23 rfl (Ext.refl _) (hb1.get rfl)) ?_
      refine WL.q rfl (r_len sl_23 rfl) ?_
      refine WL.q rfl (r_move rfl) ?_
      refine WL.nil ?_
      refine WC.block ?_
      simp only[Bool.or_eq_false_iff,Bool.and_eq_false_iff,Bool.not_eq_false',decide_eq_false_iff_not,Bool.or_eq_true,Bool.and_eq_true,decide_eq_true_eq,beq_iff_eq,bne_iff_ne,bne_eq_false_iff_eq,beq_eq_false_iff_ne,ne_eq]at hc hc2
      obtain⟨⟨⟨⟨⟨⟨⟨⟨p1,p2⟩,p3⟩,p4⟩,p5⟩,p6⟩,p7⟩,p8⟩,p9⟩:=hc
      obtain⟨⟨⟨⟨q1,q2⟩,q3⟩,q4⟩,q5⟩:=hc2
      have q5':t.length≤131072:=by
        have:¬(131072:Int)<(t.length:Int):=q5
        omega
      have q3':k=9→ks.length%2=0:=fun h=>by
        rcases q3 with q3|q3
        · exact absurd h q3
        · rw[Int.tmod_eq_emod_of_nonneg (by omega)]at q3;omega
      have fin:(∀x∈ks,Fits (L-1) x)→Fits L (.mk k n t o ks):=fun h=>by
        rw[Fits]
        refine⟨by omega,by omega,fun h=>?_,fun h=>?_,fun h=>by omega,fun h=>by omega,fun h=>by omega,q3',by omega,q5',by omega,FitsL.of h⟩
        · exact List.eq_nil_of_length_eq_zero (by omega)
        · rcases p5 with p5|p5
          · omega
          · exact p5
      replace hK:=hK.mono e1
      replace he:=he.then e1
      refine WC.loop2 (ι:=Nat) [(1,_),(4,_),(143,_),(144,_)] (fun i=>[(145,.int .i64 (i:Int))]) (fun i wi=>(∀j (h:j<ks.length),j<i→Fits (L-1) ks[j])∧i≤ks.length∧Ext w1 wi) (fun i=>ks.length-i) 0 (.cons rfl (.cons rfl (.cons rfl (.cons rfl .nil)))) (.cons rfl .nil) (⟨fun j _ hj=>absurd hj (by omega),Nat.zero_le _,Ext.refl _⟩) ?_
      intro i wi1 hh;obtain⟨qS,ni,hE⟩:=hh
      rcases Nat.lt_or_ge i ks.length with qi|qi
      replace hK:=hK.mono hE
      · obtain⟨b,o1,c1,rfl,_,hA1,l2,hR1⟩:=hK.kid qi
        have hone:=hR1.one
        have hm:=pcountL_mem (List.getElem_mem qi)
        refine WC.seq<|WC.region ?_
        refine WL.q rfl (r_cmp (r_lss rfl rfl) (decide_eq_true (by omega))) ?_
        refine WL.nil ?_
        refine WC.seq<|WC.condT rfl ?_
        refine WC.skip ?_
        refine WC.seq<|WC.block ?_
        refine WC.seq<|WC.region ?_
        refine WL.q rfl (r_idx sl_23 rfl rfl rfl (by first|omega|(simp;done)|(simp;omega))) ?_
        refine WL.q rfl (r_loadAgg agg_25 rfl (Ext.refl _) hA1 (hn:=l2)) ?_
        replace he:=he.then hE
        have hs2:=he.size
        replace hb1:=hb1.mono hE
        have hx2b1:=hb1.lt
        refine WL.l rfl (l_alloc zt_25 rfl) fun _ w2 hh=>?_
        obtain⟨rfl,hb2,e2⟩:=hh
        refine WL.l0 (l_storeW sz_25 rfl rfl (by first|rfl|assumption|(simp[*];done)|simp[Value.oneCell', *]) (by first|rfl|simp[*]) hb2 (by first|rfl|simp[*])) fun _ w3 hh=>?_
        obtain⟨hb2,e3,hz3⟩:=hh
        refine WL.nil ?_
        refine WC.seq<|WC.region ?_
        refine WL.q rfl (r_loadAgg agg_25 rfl (Ext.refl _) hb2.at (hn:=by first|rfl|assumption)) ?_
        refine WL.q rfl (r_move rfl) ?_
        refine WL.q rfl (r_subi rfl rfl rfl (by omega) (by omega)) ?_
        replace hR1:=hR1.mono (e2.then e3)
        refine WL.l rfl (l_do body_15 rfl (hks _ (List.getElem_mem qi) _ _ (L-1) _ hR1 (by omega) (by omega) (by omega))) fun v4 w4 hh=>?_
        obtain⟨z,rfl,nz,e4⟩:=hh
        refine WL.q rfl (r_not rfl) ?_
        refine WL.nil ?_
        refine WC.cond rfl ?_ ?_
        · intro h2
          refine WC.seq<|WC.region ?_
          refine WL.q rfl (r_assign rfl) ?_
          refine WL.nil ?_
          refine WC.ret ?_
          replace he:=(he.then (e2.then e3)).then e4
          exact fin1 rfl ⟨false,rfl,fun h=>(by cases h),he⟩
        · intro h2
          have hz:=nz (by simpa using h2)
          refine WC.skip ?_
          refine WC.region ?_
          refine WL.q rfl (r_addi rfl rfl rfl (by omega) (by omega)) ?_
          refine WL.q rfl (r_move rfl) ?_
          refine WL.nil ?_
          exact⟨i+1,(.cons rfl (.cons rfl (.cons rfl (.cons rfl .nil)))),(.cons (lk_int rfl (by omega)) .nil),⟨fun j h hj=>by rcases Nat.lt_or_ge j i with h1|h1;exact qS j h h1;exact(show j=i by omega)▸hz,qi,(((hE.then (e2.then e3)).then e4))⟩,by omega⟩
      · skip
        refine WC.seq<|WC.region ?_
        refine WL.q rfl (r_cmp (r_lss rfl rfl) (decide_eq_false (by omega))) ?_
        refine WL.nil ?_
        refine WC.seq<|WC.condF rfl ?_
        refine WC.exit ?_
        refine WC.seq<|WC.region ?_
        refine WL.q rfl (r_assign rfl) ?_
        refine WL.nil ?_
        refine WC.ret ?_
        replace he:=he.then hE
        exact fin1 rfl ⟨true,rfl,fun _=>fin fun x hx=>by obtain⟨j,hj,rfl⟩:=List.getElem_of_mem hx;exact qS j hj (by omega),he⟩
theorem fits:∀x:Pk,FitS x:=Pk.ind fun _ _ _ _ _ h=>fit_one h
end Go.Proofs.LL
set_option maxRecDepth 20000
namespace Go.Proofs.LL
open Go Go.Proofs Go.RowKit
theorem body_7:bodyB Tryz.prog 7=true:=by kernel_rfl
theorem zt_3:zeroT Tryz.prog 3=some (.int .i64 0):=by kernel_rfl
def PacksS(x:Pk):Prop:=∀(A:Nat→Prop) (cx:List Value) (w:World),RepP A w x cx→pcount x≤100000→
  Does Tryz.prog 7 [.agg cx.toArray] w fun r w'=>r= .int .i64 (pcount x:Int)∧Ext w w'
theorem packs_one{k:Int}{n:Nat}{t:List UInt8}{o:Int}{ks:List Pk}(hks:∀x∈ks,PacksS x):PacksS (.mk k n t o ks):=by
  intro A cx w hx hv
  obtain⟨pk,ck,rfl,_,hK⟩:=hx.openP
  rw[pcount]at hv
  have hkl:=pcountL_len ks
  refine does1 Tryz.func7 rfl rfl rfl ?_
  have he:Evo (fun _=>True) w w:=Evo.refl w
  refine WC.seq<|WC.region ?_
  have hs1:=he.size
  refine WL.l rfl (l_boxAgg rfl) fun _ w1 hh=>?_
  obtain⟨rfl,hb1,e1⟩:=hh
  refine WL.q rfl (r_assign rfl) ?_
  refine WL.nil ?_
  refine WC.seq<|WC.region ?_
  refine WL.q rfl (r_assign rfl) ?_
  refine WL.nil ?_
  refine WC.seq<|WC.seq<|WC.region ?_
  refine WL.q rfl (r_fieldAddr rfl fo_25_4) ?_
  refine WL.q rfl (r_load one_23 rfl (Ext.refl _) (hb1.get rfl)) ?_
  refine WL.q rfl (r_len sl_23 rfl) ?_
  refine WL.q rfl (r_move rfl) ?_
  refine WL.nil ?_
  refine WC.block ?_
  replace hK:=hK.mono e1
  replace he:=he.then e1
  refine WC.loop2 (ι:=Nat) [(2,_),(7,_),(8,_)] (fun i=>[(3,.int .i64 ((1+pcountL (ks.take i):Nat):Int)),(9,.int .i64 (i:Int))]) (fun i wi=>i≤ks.length∧Ext w1 wi) (fun i=>ks.length-i) 0 (.cons rfl (.cons rfl (.cons rfl .nil))) (.cons rfl (.cons rfl .nil)) (⟨Nat.zero_le _,Ext.refl _⟩) ?_
  intro i wi1 hh;obtain⟨ni,hE⟩:=hh
  have hlt:=pcountL_len (ks.take i)
  rcases Nat.lt_or_ge i ks.length with qi|qi
  replace hK:=hK.mono hE
  · obtain⟨b,o1,c1,rfl,_,hA1,l2,hR1⟩:=hK.kid qi
    have hm:=pcountL_mem (List.getElem_mem qi)
    have hta:=pcountL_take qi
    have hone:=hR1.one
    have htk:pcountL (ks.take (i+1))≤pcountL ks:=by
      have:=pcountL_app (ks.take (i+1)) (ks.drop (i+1))
      rw[List.take_append_drop]at this;omega
    refine WC.seq<|WC.region ?_
    refine WL.q rfl (r_cmp (r_lss rfl rfl) (decide_eq_true (by omega))) ?_
    refine WL.nil ?_
    refine WC.seq<|WC.condT rfl ?_
    refine WC.skip ?_
    refine WC.seq<|WC.block ?_
    refine WC.seq<|WC.region ?_
    refine WL.q rfl (r_idx sl_23 rfl rfl rfl (by first|omega|(simp;done)|(simp;omega))) ?_
    refine WL.q rfl (r_loadAgg agg_25 rfl (Ext.refl _) hA1 (hn:=l2)) ?_
    replace he:=he.then hE
    have hs2:=he.size
    replace hb1:=hb1.mono hE
    have hx2b1:=hb1.lt
    refine WL.l rfl (l_alloc zt_25 rfl) fun _ w2 hh=>?_
    obtain⟨rfl,hb2,e2⟩:=hh
    refine WL.l0 (l_storeW sz_25 rfl rfl (by first|rfl|assumption|(simp[*];done)|simp[Value.oneCell', *]) (by first|rfl|simp[*]) hb2 (by first|rfl|simp[*])) fun _ w3 hh=>?_
    obtain⟨hb2,e3,hz3⟩:=hh
    refine WL.nil ?_
    refine WC.region ?_
    refine WL.q rfl (r_move rfl) ?_
    refine WL.q rfl (r_loadAgg agg_25 rfl (Ext.refl _) hb2.at (hn:=by first|rfl|assumption)) ?_
    replace hR1:=hR1.mono (e2.then e3)
    refine WL.l rfl (l_do body_7 rfl (hks _ (List.getElem_mem qi) _ _ _ hR1 (by omega))) fun v4 w4 hh=>?_
    obtain⟨rfl,e4⟩:=hh
    refine WL.q rfl (r_addi rfl rfl (show((1+pcountL (ks.take i):Nat):Int)+(pcount ks[i]:Int)=((1+pcountL (ks.take (i+1)):Nat):Int) by omega) (by omega) (by omega)) ?_
    refine WL.q rfl (r_assign rfl) ?_
    refine WL.nil ?_
    refine WC.region ?_
    refine WL.q rfl (r_addi rfl rfl rfl (by omega) (by omega)) ?_
    refine WL.q rfl (r_move rfl) ?_
    refine WL.nil ?_
    exact⟨i+1,(.cons rfl (.cons rfl (.cons rfl .nil))),(.cons (lk_int rfl (by omega)) (.cons (lk_int rfl (by omega)) .nil)),⟨qi,(((hE.then (e2.then e3)).then e4))⟩,by omega⟩
  · have hin:i=ks.length:=by omega
    subst hin
    refine WC.seq<|WC.region ?_
    refine WL.q rfl (r_cmp (r_lss rfl rfl) (decide_eq_false (by omega))) ?_
    refine WL.nil ?_
    refine WC.seq<|WC.condF rfl ?_
    refine WC.exit ?_
    refine WC.seq<|WC.region ?_
    refine WL.q rfl (r_move rfl) ?_
    refine WL.q rfl (r_assign rfl) ?_
    refine WL.nil ?_
    refine WC.ret ?_
    replace he:=he.then hE
    exact fin1 rfl ⟨by rw[List.take_length,pcount],he⟩
theorem packss:∀x:Pk,PacksS x:=Pk.ind fun _ _ _ _ _ h=>packs_one h
theorem PackFits_ok{A:Nat→Prop}{x:Pk}{cx:List Value}{L:Int}{w:World}(hx:RepP A w x cx)(l0:0≤L)(l1:L≤1000):
    Does Tryz.prog 6 [.agg cx.toArray,.int .i64 L] w fun r w'=>∃b,r= .bool b∧(b=true→pcount x≤2000∧Fits L x)∧Ext w w':=by
  obtain⟨k,n,t,o,ks⟩:=x
  have hx0:=hx.weakenW (B:=fun b=>b<w.heap.size) (fun b h _=>h)
  obtain⟨pk,ck,rfl,_,_⟩:=hx.openP
  refine does1 Tryz.func6 rfl rfl rfl ?_
  have he:Evo (fun b=>b<w.heap.size) w w:=Evo.refl w
  refine WC.seq<|WC.region ?_
  have hs1:=he.size
  refine WL.l rfl (l_boxAgg rfl) fun _ w1 hh=>?_
  obtain⟨rfl,hb1,e1⟩:=hh
  refine WL.q rfl (r_assign rfl) ?_
  refine WL.nil ?_
  refine WC.seq<|WC.region ?_
  replace he:=he.then e1
  have hs2:=he.size
  have hx2b1:=hb1.lt
  refine WL.l rfl (l_alloc zt_3 rfl) fun _ w2 hh=>?_
  obtain⟨rfl,hb2,e2⟩:=hh
  refine WL.l0 (l_store sz_3 rfl rfl rfl hb2 rfl) fun _ w3 hh=>?_
  obtain⟨hb2,e3,hz3⟩:=hh
  refine WL.nil ?_
  refine WC.seq<|WC.region ?_
  replace hb1:=hb1.mono (e2.then e3)
  refine WL.q rfl (r_loadAgg agg_25 rfl (Ext.refl _) hb1.at (hn:=by first|rfl|assumption)) ?_
  replace hx0:=(hx0.mono e1).mono (e2.then e3)
  refine WL.l rfl (l_do body_14 rfl (fews _ _ _ _ _ (hx0.weaken fun b hb=>by have:=e1.size;omega) hb2 (by omega) (by omega))) fun v4 w4 hh=>?_
  obtain⟨zb,L',rfl,hb2,nb,e4⟩:=hh
  have ny:w.heap.size≤w1.heap.size:=e1.size
  rcases zb with _|_
  · skip
    refine WL.q rfl (r_move rfl) ?_
    refine WL.sk rfl rfl rfl rfl rfl ?_
    refine WL.sk rfl rfl rfl rfl rfl ?_
    refine WL.sk rfl rfl rfl rfl rfl ?_
    refine WL.q rfl (r_pick rfl rfl rfl) ?_
    refine WL.q rfl (r_assign rfl) ?_
    refine WL.nil ?_
    refine WC.ret ?_
    replace he:=(he.then (e2.then e3)).then e4
    exact fin1 rfl ⟨_,rfl,fun h=>(by cases h),he.weaken fun b hb _=>hb⟩
  · have hvc:pcount (.mk k n t o ks)≤2000:=by have:=nb rfl;omega
    refine WL.q rfl (r_move rfl) ?_
    replace hb1:=hb1.mono e4
    refine WL.qg rfl rfl rfl rfl (r_loadAgg agg_25 rfl (Ext.refl _) hb1.at (hn:=by first|rfl|assumption)) ?_
    refine WL.qg rfl rfl rfl rfl (r_move rfl) ?_
    replace hx0:=hx0.mono e4
    refine WL.lg rfl rfl rfl rfl (l_do body_15 rfl (fits _ _ _ _ _ hx0 (by omega) l0 l1)) fun v5 w5 hh=>?_
    obtain⟨zc,rfl,nc,e5⟩:=hh
    refine WL.q rfl (r_pick rfl rfl rfl) ?_
    refine WL.q rfl (r_assign rfl) ?_
    refine WL.nil ?_
    refine WC.ret ?_
    replace he:=((he.then (e2.then e3)).then e4).then e5
    exact fin1 rfl ⟨_,rfl,fun h=>⟨hvc,nc h⟩,he.weaken fun b hb _=>hb⟩
end Go.Proofs.LL
set_option maxRecDepth 20000
namespace Go.Proofs.LL
open Go Go.Proofs Go.RowKit
structure Since (A:Nat→Prop) (w0 w:World):Prop where
  evo:Evo A w0 w
theorem Since.mono{A B:Nat→Prop}{w0 w w':World}(h:Since A w0 w)(e:Evo B w w')(hAB:∀b,b<w0.heap.size→A b→B b:=by(intro b hb1 hb2;first|exact trivial|exact hb2|((try dsimp only[Nb]at hb2⊢);omega))):Since A w0 w':=⟨h.evo.then e hAB⟩
theorem bc_append(a b:List UInt8):bc (a++b)=bc a++bc b:=List.map_append
theorem Own.cast{B e z n m:Nat}{w:World}{v:Value}{xs ys:List Value}(h:Own B e z w v n xs)(hn:n=m)(hx:xs=ys):Own B e z w v m ys:=hn▸hx▸h
theorem Own.cong{B e z n:Nat}{w:World}{v:Value}{xs ys:List Value}(h:Own B e z w v n xs)(hx:xs=ys):Own B e z w v n ys:=hx▸h
theorem Own.one{B e z n:Nat}{w:World}{v:Value}{xs:List Value}(h:Own B e z w v n xs):v.oneCell'=true:=by
  obtain⟨p,c,rfl,_⟩:=h.form
  rfl
theorem Own.lt{B e z n:Nat}{w:World}{v:Value}{xs:List Value}(h:Own B e z w v n xs):∀b,v.ownBlock=some b→b<w.heap.size:=by
  intro b hb
  rcases h.row.2 with⟨rfl,_⟩|⟨g,cap,cur,rfl,h4,h5,_⟩
  · simp[Value.ownBlock]at hb
  · simp[Value.ownBlock]at hb
    subst hb
    exact(Array.getElem?_eq_some_iff.1 h5).1
theorem IsB.lit{A:Nat→Prop}{w:World}{g n:Nat}{xs:List Value}(h:Blk w g xs)(hx:∃l2:List UInt8,l2.length=n∧xs=bc l2)(hA:A g:=by trivial):∃l2:List UInt8,l2.length=n∧IsB A w (.slice (some ⟨g,0,none⟩) n n) l2:=by
  obtain⟨l2,rfl,rfl⟩:=hx
  refine⟨l2,rfl,_,_,rfl,Nat.le_refl _,fun _=>⟨g,0,rfl,hA,fun j hj=>?_⟩⟩
  have h1:=h.at j (by simpa using hj)
  rw[h1]
  simp[hj]
theorem Own.low'{B e z n:Nat}{w:World}{v:Value}{xs:List Value}(h:Own B e z w v n xs):∀b,v.ownBlock=some b→B≤b∧b<w.heap.size:=by
  intro b hb
  rcases h.row.2 with⟨rfl,_⟩|⟨g,cap,cur,rfl,h4,h5,_⟩
  · simp[Value.ownBlock]at hb
  · simp[Value.ownBlock]at hb
    subst hb
    exact⟨h4,(Array.getElem?_eq_some_iff.1 h5).1⟩
theorem Own.ob{B e z n:Nat}{w:World}{v:Value}{xs:List Value}(h:Own B e z w v n xs):∀k,v.ownBlock=some k→B≤k∧k<w.heap.size:=by
  intro k hk
  obtain⟨_,h2⟩:=h.row
  rcases h2 with⟨rfl,_⟩|⟨g,cap,cur,rfl,h4,h5,_⟩
  · simp[Value.ownBlock]at hk
  · simp[Value.ownBlock]at hk
    subst hk
    exact⟨h4,(Array.getElem?_eq_some_iff.1 h5).1⟩
theorem LoudOp.imp{P:Program}{op:Op}{ty:TypeId}{ρ:Fr}{w:World}{R R':Value→World→Prop}(h:LoudOp P op ty ρ w R)(hi:∀v w',R v w'→R' v w'):LoudOp P op ty ρ w R':=
  fun N D a dst pos af g ha next Q hn=>h N D a dst pos af g ha next Q fun v w' hr=>hn v w' (hi v w' hr)
theorem l_appI{P:Program}{ρ:Fr}{ty:TypeId}{s x:Operand}{w:World}(C:Nat→Prop){A:Nat→Prop}{pv:Value}{l:List UInt8}{B t tx e z bs n m:Nat}{zv v u:Value}{xs news:List Value}(hI:IsB A w pv l)(hA:∀b,A b→v.ownBlock≠some b)(hC:∀k,C k→v.ownBlock≠some k)(ht:slZ P t=some (e,z,bs,zv))(hs:ov ρ s=some v)(hx:ov ρ x=some u)(hown:Own B e z w v n xs)(hsrc:Src P z tx u m news w)(hB:B≤w.heap.size)(h63:n+m≤maxLen)(hbytes:(n+m) * bs≤140737488355328):
    LoudOp P (.call ⟨.builtin .append, #[s,x], #[t,tx]⟩) ty ρ w (fun v' w'=>Own B e z w' v' (n+m) (xs++news)∧IsB A w' pv l∧Evo (fun k=>k<B) w w'∧Evo C w w'):=
  (l_appO ht hs hx hown hsrc hB h63 hbytes).imp fun v' w' ⟨h1,h2,_⟩=>⟨h1,hI.mono h2 (fun b _ h=>hA b h),hown.evo (w0:=w) h2,h2.weaken fun k _ h=>hC k h⟩
theorem l_appRow{P:Program}{ρ:Fr}{ty:TypeId}{s x:Operand}{w:World}{B N t tx e z bs n m:Nat}{zv v u:Value}{xs news:List Value}(hob:∀k,v.ownBlock=some k→B≤k∧k<N)(ht:slZ P t=some (e,z,bs,zv))(hs:ov ρ s=some v)(hx:ov ρ x=some u)(hown:Own B e z w v n xs)(hsrc:Src P z tx u m news w)(hB:B≤w.heap.size)(h63:n+m≤maxLen)(hbytes:(n+m) * bs≤140737488355328):
    LoudOp P (.call ⟨.builtin .append, #[s,x], #[t,tx]⟩) ty ρ w (fun v' w'=>Own B e z w' v' (n+m) (xs++news)∧Evo (fun k=>k<B∨N≤k) w w'):=
  (l_appO ht hs hx hown hsrc hB h63 hbytes).imp fun v' w' ⟨h1,h2,_⟩=>⟨h1,h2.weaken fun k _ h hk=>by have h3:=hob k hk;omega⟩
theorem Own.below{B e z n:Nat}{w:World}{v:Value}{xs:List Value}(h:Own B e z w v n xs):v.ownBlock≠some w.heap.size∧∀k,k<B→v.ownBlock≠some k:=by
  rcases h.row.2 with⟨rfl,_⟩|⟨g,cap,cur,rfl,h4,h5,_⟩
  · exact⟨by simp[Value.ownBlock],fun k _=>by simp[Value.ownBlock]⟩
  · have:=(Array.getElem?_eq_some_iff.1 h5).1
    exact⟨by simp[Value.ownBlock];omega,fun k _=>by simp[Value.ownBlock];omega⟩
theorem Own.at0{B e z n g c:Nat}{w:World}{xs:List Value}(h:Own B e z w (.slice (some ⟨g,0,none⟩) n c) n xs)(hn:0<n):At w g 0 xs∧g<w.heap.size∧B≤g∧n≤c:=by
  obtain⟨p,c',e1,e2,e3⟩:=h.form
  obtain⟨b,e4,e5,e6,e7⟩:=e3 hn
  simp only[Value.slice.injEq]at e1
  obtain⟨e1,_,rfl⟩:=e1
  rw[e4]at e1
  simp only[Option.some.injEq,Addr.mk.injEq]at e1
  obtain⟨rfl,_⟩:=e1
  exact⟨e7,e6,e5,e2⟩
theorem str_get{t:List UInt8}{i:Nat}(h:i<t.length):(⟨t.toArray⟩:ByteArray)[i]?=some t[i]:=by
  show(if h:i<(⟨t.toArray⟩:ByteArray).size then some ((⟨t.toArray⟩:ByteArray)[i])else none)=_
  rw[dif_pos (show i<(⟨t.toArray⟩:ByteArray).size from h)]
  rfl
end Go.Proofs.LL
