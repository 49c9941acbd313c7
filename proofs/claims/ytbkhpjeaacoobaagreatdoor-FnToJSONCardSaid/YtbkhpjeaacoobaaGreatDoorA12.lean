/- Contracts of functions and own laws. Conditions: those that each theorem states. -/
import Derived.Test.YtbkhpjeaacoobaaGreatDoorA11
set_option linter.all false
set_option maxRecDepth 20000
namespace Go.Proofs.LL
open Go Go.Proofs Go.RowKit
theorem body_11:bodyB Tryz.prog 11=true:=by kernel_rfl
theorem cv_22_2:cvInt Tryz.prog 22 2=some .i64:=by kernel_rfl
def nk(k:Int)(n:Nat):Int:=if k=2∧n<9223372036854775808 then 3 else k
mutual
def nrm:Pk→Pk
  | .mk k n t e ks=> .mk (nk k n) n t e (nrmL ks)
def nrmL:List Pk→List Pk
  |[]=>[]
  |x::r=>nrm x::nrmL r
end
theorem nrmL_map:∀l:List Pk,nrmL l=l.map nrm
  |[]=>by rw[nrmL];rfl
  |a::r=>by rw[nrmL,nrmL_map r];rfl
mutual
def N64:Pk→Prop
  | .mk _ n _ _ ks=>n<18446744073709551616∧ks.length≤1000000∧N64L ks
def N64L:List Pk→Prop
  |[]=>True
  |x::r=>N64 x∧N64L r
end
theorem N64L.mem:∀ {l:List Pk},N64L l→∀x∈l,N64 x
  |[],_,x,hx=>by cases hx
  |a::r,h,x,hx=>by
    rw[N64L]at h
    rcases List.mem_cons.1 hx with e|hx
    · exact e▸h.1
    · exact h.2.mem x hx
theorem N64L.of:∀ {l:List Pk},(∀x∈l,N64 x)→N64L l
  |[],_=>by rw[N64L];trivial
  |a::r,h=>by rw[N64L];exact⟨h a (by simp),N64L.of fun x hx=>h x (by simp[hx])⟩
theorem wrap_u{n:Nat}(h:n<18446744073709551616):(0≤IntKind.i64.wrap (n:Int))↔n<9223372036854775808:=by
  rw[IntKind.wrap_i64];omega
def SmS(x:Pk):Prop:=∀(A B:Nat→Prop) (cx cy:List Value) (w:World),N64 x→RepP A w (nrm x) cx→RepP B w x cy→
  Does Tryz.prog 11 [.agg cx.toArray,.agg cy.toArray] w fun r w'=>r= .bool true∧Ext w w'
theorem same_one{k:Int}{n:Nat}{t:List UInt8}{o:Int}{ks:List Pk}(hks:∀x∈ks,SmS x):SmS (.mk k n t o ks):=by
  intro A B cx cy w hN hx hy
  rw[N64]at hN
  obtain⟨hn,hl,hN⟩:=hN
  rw[nrm]at hx
  have el:(nrmL ks).length=ks.length:=by rw[nrmL_map,List.length_map]
  have hw:=wrap_u hn
  obtain⟨pk,ck,rfl,_,hK⟩:=hx.openP
  obtain⟨pk',ck',rfl,_,hK'⟩:=hy.openP
  have hnk:nk k n=2→¬0≤IntKind.i64.wrap (n:Int):=by
    intro h
    unfold nk at h
    split at h
    · omega
    · rw[hw];intro h2;exact(by assumption:¬(k=2∧n<9223372036854775808)) ⟨h,h2⟩
  refine does1 Tryz.func11 rfl rfl rfl ?_
  have he:Evo (fun _=>True) w w:=Evo.refl w
  refine WC.seq<|WC.region ?_
  have hs1:=he.size
  refine WL.l rfl (l_boxAgg rfl) fun _ w1 hh=>?_
  obtain⟨rfl,hb1,e1⟩:=hh
  replace he:=he.then e1
  have hs2:=he.size
  have hx2b1:=hb1.lt
  refine WL.l rfl (l_boxAgg rfl) fun _ w2 hh=>?_
  obtain⟨rfl,hb2,e2⟩:=hh
  refine WL.q rfl (r_assign rfl) ?_
  refine WL.nil ?_
  refine WC.seq<|WC.seq<|WC.region ?_
  refine WL.q rfl (r_fieldAddr rfl fo_25_0) ?_
  replace hb1:=hb1.mono e2
  refine WL.q rfl (r_load one_3 rfl (Ext.refl _) (hb1.get rfl)) ?_
  refine WL.q rfl (r_eql rfl rfl) ?_
  refine WL.q rfl (r_move rfl) ?_
  refine WL.qc rfl rfl rfl rfl (fun hc=>r_fieldAddr rfl fo_25_1) ?_
  refine WL.qc rfl rfl rfl rfl (fun hc=>r_load one_22 (cnd_of hc) (Ext.refl _) (hb1.get rfl)) ?_
  refine WL.qc rfl rfl rfl rfl (fun hc=>r_cvInt cv_22_2 (cnd_of hc)) ?_
  refine WL.qc rfl rfl rfl rfl (fun hc=>r_geq (cnd_of hc) rfl) ?_
  refine WL.q rfl (r_and rfl rfl (fun h=>beq_iff_eq.2 h)) ?_
  refine WL.nil ?_
  refine WC.cond rfl ?_ ?_
  · intro hc
    simp only[Bool.and_eq_true,beq_iff_eq,decide_eq_true_eq]at hc
    exact absurd hc.2 (hnk hc.1)
  · intro hc
    refine WC.skip ?_
    refine WC.seq<|WC.seq<|WC.region ?_
    refine WL.q rfl (r_fieldAddr rfl fo_25_0) ?_
    refine WL.q rfl (r_load one_3 rfl (Ext.refl _) (hb2.get rfl)) ?_
    refine WL.q rfl (r_eql rfl rfl) ?_
    refine WL.q rfl (r_move rfl) ?_
    refine WL.qc rfl rfl rfl rfl (fun hc=>r_fieldAddr rfl fo_25_1) ?_
    refine WL.qc rfl rfl rfl rfl (fun hc=>r_load one_22 (cnd_of hc) (Ext.refl _) (hb2.get rfl)) ?_
    refine WL.qc rfl rfl rfl rfl (fun hc=>r_cvInt cv_22_2 (cnd_of hc)) ?_
    refine WL.qc rfl rfl rfl rfl (fun hc=>r_geq (cnd_of hc) rfl) ?_
    refine WL.q rfl (r_and rfl rfl (fun h=>beq_iff_eq.2 h)) ?_
    refine WL.nil ?_
    refine WC.cond rfl ?_ ?_
    · intro hc2
      simp only[Bool.and_eq_true,beq_iff_eq,decide_eq_true_eq]at hc2
      have hk3:nk k n=3:=by unfold nk;rw[if_pos ⟨hc2.1,hw.1 hc2.2⟩]
      refine WC.region ?_
      refine WL.q rfl (r_fieldAddr rfl fo_25_0) ?_
      refine WL.l0 (l_store sz_3 rfl rfl rfl hb2 rfl) fun _ w3 hh=>?_
      obtain⟨hb2,e3,hz3⟩:=hh
      refine WL.nil ?_
      refine WC.seq<|WC.seq<|WC.region ?_
      refine WL.q rfl (r_fieldAddr rfl fo_25_0) ?_
      replace hb1:=hb1.mono e3
      refine WL.q rfl (r_load one_3 rfl (Ext.refl _) (hb1.get rfl)) ?_
      refine WL.q rfl (r_fieldAddr rfl fo_25_0) ?_
      refine WL.q rfl (r_load one_3 rfl (Ext.refl _) (hb2.get rfl)) ?_
      refine WL.q rfl (r_neq rfl rfl) ?_
      refine WL.q rfl (r_move rfl) ?_
      refine WL.qc rfl rfl rfl rfl (fun hc=>r_fieldAddr rfl fo_25_1) ?_
      refine WL.qc rfl rfl rfl rfl (fun hc=>r_load one_22 (cnd_of hc) (Ext.refl _) (hb1.get rfl)) ?_
      refine WL.qc rfl rfl rfl rfl (fun hc=>r_fieldAddr rfl fo_25_1) ?_
      refine WL.qc rfl rfl rfl rfl (fun hc=>r_load one_22 (cnd_of hc) (Ext.refl _) (hb2.get rfl)) ?_
      refine WL.qc rfl rfl rfl rfl (fun hc=>r_neq (cnd_of hc) (cnd_of hc)) ?_
      refine WL.q rfl (r_or rfl rfl (fun h=>beq_iff_eq.2 h)) ?_
      refine WL.q rfl (r_move rfl) ?_
      refine WL.qc rfl rfl rfl rfl (fun hc=>r_fieldAddr rfl fo_25_2) ?_
      refine WL.qc rfl rfl rfl rfl (fun hc=>r_load one_9 (cnd_of hc) (Ext.refl _) (hb1.get rfl)) ?_
      refine WL.qc rfl rfl rfl rfl (fun hc=>r_fieldAddr rfl fo_25_2) ?_
      refine WL.qc rfl rfl rfl rfl (fun hc=>r_load one_9 (cnd_of hc) (Ext.refl _) (hb2.get rfl)) ?_
      refine WL.qc rfl rfl rfl rfl (fun hc=>r_stneE (cnd_of hc) (cnd_of hc)) ?_
      refine WL.q rfl (r_or rfl rfl (fun h=>beq_iff_eq.2 h)) ?_
      refine WL.q rfl (r_move rfl) ?_
      refine WL.qc rfl rfl rfl rfl (fun hc=>r_fieldAddr rfl fo_25_3) ?_
      refine WL.qc rfl rfl rfl rfl (fun hc=>r_load one_3 (cnd_of hc) (Ext.refl _) (hb1.get rfl)) ?_
      refine WL.qc rfl rfl rfl rfl (fun hc=>r_fieldAddr rfl fo_25_3) ?_
      refine WL.qc rfl rfl rfl rfl (fun hc=>r_load one_3 (cnd_of hc) (Ext.refl _) (hb2.get rfl)) ?_
      refine WL.qc rfl rfl rfl rfl (fun hc=>r_neq (cnd_of hc) (cnd_of hc)) ?_
      refine WL.q rfl (r_or rfl rfl (fun h=>beq_iff_eq.2 h)) ?_
      refine WL.q rfl (r_move rfl) ?_
      refine WL.qc rfl rfl rfl rfl (fun hc=>r_fieldAddr rfl fo_25_4) ?_
      refine WL.qc rfl rfl rfl rfl (fun hc=>r_load one_23 (cnd_of hc) (Ext.refl _) (hb1.get rfl)) ?_
      refine WL.qc rfl rfl rfl rfl (fun hc=>r_len sl_23 (cnd_of hc)) ?_
      refine WL.qc rfl rfl rfl rfl (fun hc=>r_fieldAddr rfl fo_25_4) ?_
      refine WL.qc rfl rfl rfl rfl (fun hc=>r_load one_23 (cnd_of hc) (Ext.refl _) (hb2.get rfl)) ?_
      refine WL.qc rfl rfl rfl rfl (fun hc=>r_len sl_23 (cnd_of hc)) ?_
      refine WL.qc rfl rfl rfl rfl (fun hc=>r_neq (cnd_of hc) (cnd_of hc)) ?_
      refine WL.q rfl (r_or rfl rfl (fun h=>beq_iff_eq.2 h)) ?_
      refine WL.nil ?_
      refine WC.cond rfl ?_ ?_
      · intro hc3;exfalso;simp[hk3,el]at hc3
      intro _
      refine WC.skip ?_
      refine WC.seq<|WC.seq<|WC.region ?_
      refine WL.q rfl (r_fieldAddr rfl fo_25_4) ?_
      refine WL.q rfl (r_load one_23 rfl (Ext.refl _) (hb1.get rfl)) ?_
      refine WL.q rfl (r_len sl_23 rfl) ?_
      refine WL.q rfl (r_move rfl) ?_
      refine WL.nil ?_
      refine WC.block ?_
      replace hK:=(hK.mono e1).mono (e2.then e3)
      replace hK':=(hK'.mono e1).mono (e2.then e3)
      replace he:=he.then (e2.then e3)
      refine WC.loop2 (ι:=Nat) [(2,_),(3,_),(4,_),(63,_)] (fun i=>[(64,.int .i64 (i:Int))]) (fun i wi=>i≤ks.length∧Ext w3 wi) (fun i=>ks.length-i) 0 (.cons rfl (.cons rfl (.cons rfl (.cons rfl .nil)))) (.cons rfl .nil) (⟨Nat.zero_le _,Ext.refl _⟩) ?_
      intro i wi1 hh;obtain⟨ni,hE⟩:=hh
      rcases Nat.lt_or_ge i ks.length with qi|qi
      · have qi2:i<(nrmL ks).length:=by rw[el];exact qi
        replace hK:=hK.mono hE
        obtain⟨b,o1,c1,rfl,_,hA1,l1,hR1⟩:=hK.kid qi2
        replace hK':=hK'.mono hE
        obtain⟨b',o2,c2,rfl,_,hA2,l2,hR2⟩:=hK'.kid qi
        have hgi:(nrmL ks)[i]=nrm ks[i]:=by simp only[nrmL_map,List.getElem_map]
        rw[hgi]at hR1
        refine WC.seq<|WC.region ?_
        refine WL.q rfl (r_cmp (r_lss rfl rfl) (decide_eq_true (by(omega)))) ?_
        refine WL.nil ?_
        refine WC.seq<|WC.condT rfl ?_
        refine WC.skip ?_
        refine WC.seq<|WC.block ?_
        refine WC.seq<|WC.region ?_
        refine WL.q rfl (r_move rfl) ?_
        refine WL.q rfl (r_assign rfl) ?_
        refine WL.nil ?_
        replace hb1:=hb1.mono hE
        replace hb2:=hb2.mono hE
        refine WC.seq<|WC.regionD [(true,0),(true,1),(true,2),(true,3),(true,4),(true,5),(true,6),(true,7),(true,8),(true,9),(false,10),(true,11)] (Ext _) mixed (by kernel_rfl) (Ext.drew _) ?_
        refine WD.q rfl (fun _ hS=>r_fieldAddr rfl fo_25_4) ?_
        refine WD.q rfl (fun _ hS=>r_load one_23 rfl hS (hb1.get rfl)) ?_
        refine WD.q rfl (fun _ hS=>r_move rfl) ?_
        refine WD.q rfl (fun _ hS=>r_idx sl_23 rfl rfl rfl (by first|omega|(simp;done)|(simp;omega))) ?_
        refine WD.q rfl (fun _ hS=>r_loadAgg agg_25 rfl hS hA1 (hn:=l1)) ?_
        refine WD.q rfl (fun _ hS=>r_fieldAddr rfl fo_25_4) ?_
        refine WD.q rfl (fun _ hS=>r_load one_23 rfl hS (hb2.get rfl)) ?_
        refine WD.q rfl (fun _ hS=>r_move rfl) ?_
        refine WD.q rfl (fun _ hS=>r_idx sl_23 rfl rfl rfl (by first|omega|(simp;done)|(simp;omega))) ?_
        refine WD.q rfl (fun _ hS=>r_loadAgg agg_25 rfl hS hA2 (hn:=l2)) ?_
        refine WD.l rfl rfl (l_do body_11 rfl (hks _ (List.getElem_mem qi) _ _ _ _ _ (hN.mem _ (List.getElem_mem qi)) (hR1.mono (Ext.drew _)) (hR2.mono (Ext.drew _)))) fun v4 w4 hh=>?_
        obtain⟨rfl,e4⟩:=hh
        refine⟨((Evo.drew _).then e4),?_⟩
        refine WD.q rfl (fun _ hS=>r_not rfl) ?_
        refine WD.nil ?_
        refine WC.condF (rfl) ?_
        refine WC.skip ?_
        refine WC.region ?_
        refine WL.q rfl (r_addi rfl rfl rfl (by omega) (by omega)) ?_
        refine WL.q rfl (r_move rfl) ?_
        refine WL.nil ?_
        exact⟨i+1,(.cons rfl (.cons rfl (.cons rfl (.cons rfl .nil)))),(.cons (lk_int rfl (by omega)) .nil),⟨qi,(((hE.then (Ext.drew _)).then e4))⟩,by omega⟩
      · skip
        refine WC.seq<|WC.region ?_
        refine WL.q rfl (r_cmp (r_lss rfl rfl) (decide_eq_false (by(omega)))) ?_
        refine WL.nil ?_
        refine WC.seq<|WC.condF rfl ?_
        refine WC.exit ?_
        refine WC.seq<|WC.region ?_
        refine WL.q rfl (r_assign rfl) ?_
        refine WL.nil ?_
        refine WC.ret ?_
        replace he:=he.then hE
        exact fin1 rfl ⟨rfl,he⟩
    · intro hc2
      have hk3:nk k n=k:=by
        unfold nk
        rw[if_neg]
        intro h
        simp only[Bool.and_eq_false_iff,beq_eq_false_iff_ne,decide_eq_false_iff_not]at hc2
        rcases hc2 with h2|h2
        · exact h2 h.1
        · exact h2 (hw.2 h.2)
      refine WC.skip ?_
      refine WC.seq<|WC.seq<|WC.region ?_
      refine WL.q rfl (r_fieldAddr rfl fo_25_0) ?_
      refine WL.q rfl (r_load one_3 rfl (Ext.refl _) (hb1.get rfl)) ?_
      refine WL.q rfl (r_fieldAddr rfl fo_25_0) ?_
      refine WL.q rfl (r_load one_3 rfl (Ext.refl _) (hb2.get rfl)) ?_
      refine WL.q rfl (r_neq rfl rfl) ?_
      refine WL.q rfl (r_move rfl) ?_
      refine WL.qc rfl rfl rfl rfl (fun hc=>r_fieldAddr rfl fo_25_1) ?_
      refine WL.qc rfl rfl rfl rfl (fun hc=>r_load one_22 (cnd_of hc) (Ext.refl _) (hb1.get rfl)) ?_
      refine WL.qc rfl rfl rfl rfl (fun hc=>r_fieldAddr rfl fo_25_1) ?_
      refine WL.qc rfl rfl rfl rfl (fun hc=>r_load one_22 (cnd_of hc) (Ext.refl _) (hb2.get rfl)) ?_
      refine WL.qc rfl rfl rfl rfl (fun hc=>r_neq (cnd_of hc) (cnd_of hc)) ?_
      refine WL.q rfl (r_or rfl rfl (fun h=>beq_iff_eq.2 h)) ?_
      refine WL.q rfl (r_move rfl) ?_
      refine WL.qc rfl rfl rfl rfl (fun hc=>r_fieldAddr rfl fo_25_2) ?_
      refine WL.qc rfl rfl rfl rfl (fun hc=>r_load one_9 (cnd_of hc) (Ext.refl _) (hb1.get rfl)) ?_
      refine WL.qc rfl rfl rfl rfl (fun hc=>r_fieldAddr rfl fo_25_2) ?_
      refine WL.qc rfl rfl rfl rfl (fun hc=>r_load one_9 (cnd_of hc) (Ext.refl _) (hb2.get rfl)) ?_
      refine WL.qc rfl rfl rfl rfl (fun hc=>r_stneE (cnd_of hc) (cnd_of hc)) ?_
      refine WL.q rfl (r_or rfl rfl (fun h=>beq_iff_eq.2 h)) ?_
      refine WL.q rfl (r_move rfl) ?_
      refine WL.qc rfl rfl rfl rfl (fun hc=>r_fieldAddr rfl fo_25_3) ?_
      refine WL.qc rfl rfl rfl rfl (fun hc=>r_load one_3 (cnd_of hc) (Ext.refl _) (hb1.get rfl)) ?_
      refine WL.qc rfl rfl rfl rfl (fun hc=>r_fieldAddr rfl fo_25_3) ?_
      refine WL.qc rfl rfl rfl rfl (fun hc=>r_load one_3 (cnd_of hc) (Ext.refl _) (hb2.get rfl)) ?_
      refine WL.qc rfl rfl rfl rfl (fun hc=>r_neq (cnd_of hc) (cnd_of hc)) ?_
      refine WL.q rfl (r_or rfl rfl (fun h=>beq_iff_eq.2 h)) ?_
      refine WL.q rfl (r_move rfl) ?_
      refine WL.qc rfl rfl rfl rfl (fun hc=>r_fieldAddr rfl fo_25_4) ?_
      refine WL.qc rfl rfl rfl rfl (fun hc=>r_load one_23 (cnd_of hc) (Ext.refl _) (hb1.get rfl)) ?_
      refine WL.qc rfl rfl rfl rfl (fun hc=>r_len sl_23 (cnd_of hc)) ?_
      refine WL.qc rfl rfl rfl rfl (fun hc=>r_fieldAddr rfl fo_25_4) ?_
      refine WL.qc rfl rfl rfl rfl (fun hc=>r_load one_23 (cnd_of hc) (Ext.refl _) (hb2.get rfl)) ?_
      refine WL.qc rfl rfl rfl rfl (fun hc=>r_len sl_23 (cnd_of hc)) ?_
      refine WL.qc rfl rfl rfl rfl (fun hc=>r_neq (cnd_of hc) (cnd_of hc)) ?_
      refine WL.q rfl (r_or rfl rfl (fun h=>beq_iff_eq.2 h)) ?_
      refine WL.nil ?_
      refine WC.cond rfl ?_ ?_
      · intro hc3;exfalso;simp[hk3,el]at hc3
      intro _
      refine WC.skip ?_
      refine WC.seq<|WC.seq<|WC.region ?_
      refine WL.q rfl (r_fieldAddr rfl fo_25_4) ?_
      refine WL.q rfl (r_load one_23 rfl (Ext.refl _) (hb1.get rfl)) ?_
      refine WL.q rfl (r_len sl_23 rfl) ?_
      refine WL.q rfl (r_move rfl) ?_
      refine WL.nil ?_
      refine WC.block ?_
      replace hK:=(hK.mono e1).mono e2
      replace hK':=(hK'.mono e1).mono e2
      replace he:=he.then e2
      refine WC.loop2 (ι:=Nat) [(2,_),(3,_),(4,_),(63,_)] (fun i=>[(64,.int .i64 (i:Int))]) (fun i wi=>i≤ks.length∧Ext w2 wi) (fun i=>ks.length-i) 0 (.cons rfl (.cons rfl (.cons rfl (.cons rfl .nil)))) (.cons rfl .nil) (⟨Nat.zero_le _,Ext.refl _⟩) ?_
      intro i wi1 hh;obtain⟨ni,hE⟩:=hh
      rcases Nat.lt_or_ge i ks.length with qi|qi
      · have qi2:i<(nrmL ks).length:=by rw[el];exact qi
        replace hK:=hK.mono hE
        obtain⟨b,o1,c1,rfl,_,hA1,l1,hR1⟩:=hK.kid qi2
        replace hK':=hK'.mono hE
        obtain⟨b',o2,c2,rfl,_,hA2,l2,hR2⟩:=hK'.kid qi
        have hgi:(nrmL ks)[i]=nrm ks[i]:=by simp only[nrmL_map,List.getElem_map]
        rw[hgi]at hR1
        refine WC.seq<|WC.region ?_
        refine WL.q rfl (r_cmp (r_lss rfl rfl) (decide_eq_true (by(omega)))) ?_
        refine WL.nil ?_
        refine WC.seq<|WC.condT rfl ?_
        refine WC.skip ?_
        refine WC.seq<|WC.block ?_
        refine WC.seq<|WC.region ?_
        refine WL.q rfl (r_move rfl) ?_
        refine WL.q rfl (r_assign rfl) ?_
        refine WL.nil ?_
        replace hb1:=hb1.mono hE
        replace hb2:=hb2.mono hE
        refine WC.seq<|WC.regionD [(true,0),(true,1),(true,2),(true,3),(true,4),(true,5),(true,6),(true,7),(true,8),(true,9),(false,10),(true,11)] (Ext _) mixed (by kernel_rfl) (Ext.drew _) ?_
        refine WD.q rfl (fun _ hS=>r_fieldAddr rfl fo_25_4) ?_
        refine WD.q rfl (fun _ hS=>r_load one_23 rfl hS (hb1.get rfl)) ?_
        refine WD.q rfl (fun _ hS=>r_move rfl) ?_
        refine WD.q rfl (fun _ hS=>r_idx sl_23 rfl rfl rfl (by first|omega|(simp;done)|(simp;omega))) ?_
        refine WD.q rfl (fun _ hS=>r_loadAgg agg_25 rfl hS hA1 (hn:=l1)) ?_
        refine WD.q rfl (fun _ hS=>r_fieldAddr rfl fo_25_4) ?_
        refine WD.q rfl (fun _ hS=>r_load one_23 rfl hS (hb2.get rfl)) ?_
        refine WD.q rfl (fun _ hS=>r_move rfl) ?_
        refine WD.q rfl (fun _ hS=>r_idx sl_23 rfl rfl rfl (by first|omega|(simp;done)|(simp;omega))) ?_
        refine WD.q rfl (fun _ hS=>r_loadAgg agg_25 rfl hS hA2 (hn:=l2)) ?_
        refine WD.l rfl rfl (l_do body_11 rfl (hks _ (List.getElem_mem qi) _ _ _ _ _ (hN.mem _ (List.getElem_mem qi)) (hR1.mono (Ext.drew _)) (hR2.mono (Ext.drew _)))) fun v3 w3 hh=>?_
        obtain⟨rfl,e3⟩:=hh
        refine⟨((Evo.drew _).then e3),?_⟩
        refine WD.q rfl (fun _ hS=>r_not rfl) ?_
        refine WD.nil ?_
        refine WC.condF (rfl) ?_
        refine WC.skip ?_
        refine WC.region ?_
        refine WL.q rfl (r_addi rfl rfl rfl (by omega) (by omega)) ?_
        refine WL.q rfl (r_move rfl) ?_
        refine WL.nil ?_
        exact⟨i+1,(.cons rfl (.cons rfl (.cons rfl (.cons rfl .nil)))),(.cons (lk_int rfl (by omega)) .nil),⟨qi,(((hE.then (Ext.drew _)).then e3))⟩,by omega⟩
      · skip
        refine WC.seq<|WC.region ?_
        refine WL.q rfl (r_cmp (r_lss rfl rfl) (decide_eq_false (by(omega)))) ?_
        refine WL.nil ?_
        refine WC.seq<|WC.condF rfl ?_
        refine WC.exit ?_
        refine WC.seq<|WC.region ?_
        refine WL.q rfl (r_assign rfl) ?_
        refine WL.nil ?_
        refine WC.ret ?_
        replace he:=he.then hE
        exact fin1 rfl ⟨rfl,he⟩
theorem sames:∀x:Pk,SmS x:=Pk.ind fun _ _ _ _ _ h=>same_one h
end Go.Proofs.LL
set_option maxRecDepth 20000
namespace Go.Proofs.LL
open Go Go.Proofs Go.RowKit
theorem cv_22_3:cvInt Tryz.prog 22 3=some .i64:=by kernel_rfl
theorem cv_22_5:cvInt Tryz.prog 22 5=some .u8:=by kernel_rfl
theorem fo_37_0:fOff Tryz.prog 37 0=some 0:=by kernel_rfl
theorem fo_37_1:fOff Tryz.prog 37 1=some 1:=by kernel_rfl
theorem one_4:oneT Tryz.prog 4=true:=by kernel_rfl
theorem sz_22:szT Tryz.prog 22=some 1:=by kernel_rfl
def Fm(w:World)(fb:Nat):Prop:=∃s b,0≤s∧s<18446744073709551616∧Blk w fb [.int .u64 s,.bool b]
theorem Fm.mono{A:Nat→Prop}{w w':World}{fb:Nat}(h:Fm w fb)(e:Evo A w w')(hA:A fb:=by first|exact trivial|((try dsimp only[Nb]);omega)|assumption):Fm w' fb:=by
  obtain⟨s,b,h1,h2,h3⟩:=h
  exact⟨s,b,h1,h2,h3.mono e hA⟩
theorem Fm.lt{w:World}{fb:Nat}(h:Fm w fb):fb<w.heap.size:=by obtain⟨s,b,_,_,h⟩:=h;exact h.lt
theorem u64_rng(z:Int):0≤IntKind.u64.wrap z∧IntKind.u64.wrap z<18446744073709551616:=by
  have:IntKind.u64.wrap z=z%18446744073709551616:=rfl
  rw[this];omega
theorem pk_val{s:Int}{n:Nat}(h1:0≤s)(h2:s<18446744073709551616)(hn:1≤n):∃k:Nat,k<n∧(IntKind.i64.wrap (s.fdiv (2^(min (33:Int).toNat IntKind.u64.bits)))).tmod (n:Int)=(k:Int):=by
  have e1:(2:Int)^(min (33:Int).toNat IntKind.u64.bits)=8589934592:=by decide
  rw[e1]
  have e2:s.fdiv 8589934592=s / 8589934592:=Int.fdiv_eq_ediv_of_nonneg _ (by omega)
  rw[e2,wrap_i64 (by omega) (by omega)]
  have e3:(s / 8589934592).tmod (n:Int)=(s / 8589934592)%(n:Int):=Int.tmod_eq_emod_of_nonneg (by omega)
  rw[e3]
  have h5:=Int.emod_nonneg (s / 8589934592) (show(n:Int)≠0 by omega)
  have h6:=Int.emod_lt_of_pos (s / 8589934592) (show 0<(n:Int) by omega)
  exact⟨((s / 8589934592)%(n:Int)).toNat,by omega,by omega⟩
theorem pick_ok{fb n:Nat}{w:World}(hF:Fm w fb)(hn:1≤n)(hn2:n≤1000000):
    Does Tryz.prog 27 [.pointer (some ⟨fb,0,none⟩),.int .i64 (n:Int)] w fun r w'=>(∃k:Nat,k<n∧r= .int .i64 (k:Int))∧Fm w' fb∧Evo (fun k=>k≠fb) w w':=by
  obtain⟨s,b,h1,h2,hB⟩:=hF
  cases b with
  |true=>
    refine does1 Tryz.func27 rfl rfl rfl ?_
    have he:Evo (fun k=>k≠fb) w w:=Evo.refl w
    refine WC.seq<|WC.region ?_
    refine WL.q rfl (r_assign rfl) ?_
    refine WL.nil ?_
    refine WC.seq<|WC.seq<|WC.region ?_
    refine WL.q rfl (r_move rfl) ?_
    refine WL.q rfl (r_nilp rfl) ?_
    refine WL.q rfl (r_fieldAddr rfl fo_37_1) ?_
    refine WL.q rfl (r_load one_4 rfl (Ext.refl _) (hB.get rfl)) ?_
    refine WL.q rfl (r_move rfl) ?_
    refine WL.sk rfl rfl rfl rfl rfl ?_
    refine WL.sk rfl rfl rfl rfl rfl ?_
    refine WL.q rfl (r_pick rfl rfl rfl) ?_
    refine WL.nil ?_
    refine WC.condT rfl ?_
    refine WC.seq<|WC.region ?_
    refine WL.q rfl (r_assign rfl) ?_
    refine WL.nil ?_
    refine WC.ret ?_
    exact fin1 rfl ⟨⟨0,by omega,rfl⟩,⟨s,true,h1,h2,hB⟩,he⟩
  |false=>
    rcases Nat.lt_or_ge 1 n with h5|h5
    · skip
      refine does1 Tryz.func27 rfl rfl rfl ?_
      have he:Evo (fun k=>k≠fb) w w:=Evo.refl w
      refine WC.seq<|WC.region ?_
      refine WL.q rfl (r_assign rfl) ?_
      refine WL.nil ?_
      refine WC.seq<|WC.seq<|WC.region ?_
      refine WL.q rfl (r_move rfl) ?_
      refine WL.q rfl (r_nilp rfl) ?_
      refine WL.q rfl (r_fieldAddr rfl fo_37_1) ?_
      refine WL.q rfl (r_load one_4 rfl (Ext.refl _) (hB.get rfl)) ?_
      refine WL.q rfl (r_move rfl) ?_
      refine WL.qg rfl rfl rfl rfl (r_move rfl) ?_
      refine WL.qg rfl rfl rfl rfl (r_cmp (r_leq rfl rfl) (decide_eq_false (by omega))) ?_
      refine WL.q rfl (r_pick rfl rfl rfl) ?_
      refine WL.nil ?_
      refine WC.condF rfl ?_
      refine WC.skip ?_
      refine WC.seq<|WC.region ?_
      refine WL.q rfl (r_move rfl) ?_
      refine WL.q rfl (r_move rfl) ?_
      refine WL.q rfl (r_nilp rfl) ?_
      refine WL.q rfl (r_fieldAddr rfl fo_37_0) ?_
      refine WL.q rfl (r_load one_22 rfl (Ext.refl _) (hB.get rfl)) ?_
      refine WL.q rfl (r_mul rfl rfl) ?_
      refine WL.q rfl (r_add rfl rfl) ?_
      refine WL.q rfl (r_nilp rfl) ?_
      refine WL.q rfl (r_fieldAddr rfl fo_37_0) ?_
      refine WL.l0 (l_store sz_22 rfl rfl (by first|rfl|assumption|exact Own.one (by assumption)) hB rfl) fun _ w1 hh=>?_
      obtain⟨hB,e1,hz1⟩:=hh
      refine WL.nil ?_
      refine WC.seq<|WC.region ?_
      refine WL.q rfl (r_move rfl) ?_
      refine WL.q rfl (r_nilp rfl) ?_
      refine WL.q rfl (r_fieldAddr rfl fo_37_0) ?_
      refine WL.q rfl (r_load one_22 rfl (Ext.refl _) (hB.get rfl)) ?_
      refine WL.q rfl (r_shr rfl rfl (by decide)) ?_
      refine WL.q rfl (r_cvInt cv_22_3 rfl) ?_
      refine WL.q rfl (r_move rfl) ?_
      refine WL.q rfl (r_rem (by omega) rfl rfl) ?_
      refine WL.q rfl (r_assign rfl) ?_
      refine WL.nil ?_
      refine WC.ret ?_
      obtain⟨k,hk,ek⟩:=pk_val (s:=IntKind.u64.wrap (IntKind.u64.wrap (s * 6364136223846793005)+1442695040888963407)) (n:=n) (u64_rng _).1 (u64_rng _).2 hn
      replace he:=he.then e1
      exact fin1 rfl ⟨⟨k,hk,congrArg (Value.int .i64) ek⟩,⟨_,false,(u64_rng _).1,(u64_rng _).2,hB⟩,he⟩
    · skip
      refine does1 Tryz.func27 rfl rfl rfl ?_
      have he:Evo (fun k=>k≠fb) w w:=Evo.refl w
      refine WC.seq<|WC.region ?_
      refine WL.q rfl (r_assign rfl) ?_
      refine WL.nil ?_
      refine WC.seq<|WC.seq<|WC.region ?_
      refine WL.q rfl (r_move rfl) ?_
      refine WL.q rfl (r_nilp rfl) ?_
      refine WL.q rfl (r_fieldAddr rfl fo_37_1) ?_
      refine WL.q rfl (r_load one_4 rfl (Ext.refl _) (hB.get rfl)) ?_
      refine WL.q rfl (r_move rfl) ?_
      refine WL.qg rfl rfl rfl rfl (r_move rfl) ?_
      refine WL.qg rfl rfl rfl rfl (r_cmp (r_leq rfl rfl) (decide_eq_true (by omega))) ?_
      refine WL.q rfl (r_pick rfl rfl rfl) ?_
      refine WL.nil ?_
      refine WC.condT rfl ?_
      refine WC.seq<|WC.region ?_
      refine WL.q rfl (r_assign rfl) ?_
      refine WL.nil ?_
      refine WC.ret ?_
      exact fin1 rfl ⟨⟨0,by omega,rfl⟩,⟨s,false,h1,h2,hB⟩,he⟩
theorem bigB_get(n:Nat):∀(k m:Nat),m<k→(bigB n k)[k-1-m]?=some (UInt8.ofNat (n>>>(8 * m)))
  |0,m,h=>absurd h (by omega)
  |k+1,m,h=>by
    rcases Nat.lt_or_ge m k with h1|h1
    · rw[bigB,show k+1-1-m=(k-1-m)+1 by omega,List.getElem?_cons_succ]
      exact bigB_get n k m h1
    · obtain rfl:m=k:=by omega
      rw[bigB,show m+1-1-m=0 by omega,List.getElem?_cons_zero]
theorem byte_of{u:Int}{m:Nat}(hu:0≤u)(hm:m≤7):IntKind.u8.wrap (u.fdiv (2^(min (8 * (m:Int)).toNat IntKind.u64.bits)))=((UInt8.ofNat (u.toNat>>>(8 * m))).toNat:Int):=by
  have e0:min (8 * (m:Int)).toNat IntKind.u64.bits=8 * m:=by
    have:IntKind.u64.bits=64:=rfl
    rw[this];omega
  rw[e0]
  obtain⟨n,rfl⟩:∃n:Nat,u=n:=⟨u.toNat,by omega⟩
  have e1:((n:Int)).fdiv (2^(8 * m))=((n / 2^(8 * m):Nat):Int):=by
    rw[Int.fdiv_eq_ediv_of_nonneg _ (by exact_mod_cast Nat.zero_le (2^(8 * m)))]
    push_cast;rfl
  rw[e1,Int.toNat_natCast,UInt8.toNat_ofNat',Nat.shiftRight_eq_div_pow]
  have e2:∀z:Nat,IntKind.u8.wrap (z:Int)=((z%2^8:Nat):Int):=fun z=>by
    have:IntKind.u8.wrap (z:Int)=(z:Int)%256:=rfl
    rw[this];omega
  exact e2 _
theorem big_ok{u:Int}{k:Nat}{w:World}(hu:0≤u)(hk:k≤8):
    Does Tryz.prog 26 [.int .u64 u,.int .i64 (k:Int)] w fun r w'=>Own w.heap.size 5 1 w' r k (bc (bigB u.toNat k))∧Ext w w':=by
  have hbl:=bigB_length u.toNat k
  refine does1 Tryz.func26 rfl rfl rfl ?_
  have he:Evo (fun b=>b<w.heap.size) w w:=Evo.refl w
  refine WC.seq<|WC.region ?_
  refine WL.q rfl (r_assign rfl) ?_
  refine WL.nil ?_
  refine WC.seq<|WC.region ?_
  refine WL.q rfl (r_assign rfl) ?_
  refine WL.nil ?_
  refine WC.seq<|WC.seq<|WC.region ?_
  refine WL.q rfl (r_move rfl) ?_
  refine WL.q rfl (r_subi rfl rfl rfl (by omega) (by omega)) ?_
  refine WL.q rfl (r_assign rfl) ?_
  refine WL.nil ?_
  refine WC.block ?_
  refine WC.loop2 (ι:=(Nat×Value)) [(0,_),(4,_)] (fun i=>[(5,i.2),(6,.int .i64 ((i.1:Int)-1))]) (fun i wi=>Own w.heap.size 5 1 wi i.2 (k-i.1) (bc ((bigB u.toNat k).take (k-i.1)))∧i.1≤k∧Evo (fun b=>b<w.heap.size) w wi) (fun i=>i.1) (k,.slice none 0 0) (.cons rfl (.cons rfl .nil)) (.cons rfl (.cons rfl .nil)) (⟨by simpa using Own.nil _ _ _ _,Nat.le_refl _,Evo.refl _⟩) ?_
  intro i wi1 hh;obtain⟨hO,nil2,hE⟩:=hh
  obtain⟨m,sv⟩:=i
  dsimp only at hO nil2
  have hwi:=hE.size
  rcases Nat.eq_zero_or_pos m with hm|hm
  · subst hm
    rw[Nat.sub_zero,List.take_of_length_le (by omega)]at hO
    refine WC.seq<|WC.seq<|WC.region ?_
    refine WL.q rfl (r_move rfl) ?_
    refine WL.q rfl (r_cmp (r_geq rfl rfl) (decide_eq_false (by omega))) ?_
    refine WL.nil ?_
    refine WC.condF rfl ?_
    refine WC.exit ?_
    refine WC.seq<|WC.region ?_
    refine WL.q rfl (r_move rfl) ?_
    refine WL.q rfl (r_assign rfl) ?_
    refine WL.nil ?_
    refine WC.ret ?_
    replace he:=he.then hE
    exact fin1 rfl ⟨hO,he.weaken fun k hk _=>hk⟩
  · obtain⟨j,rfl⟩:∃j,m=j+1:=⟨m-1,by omega⟩
    have hg:=bigB_get u.toNat k j (by omega)
    have hlt:k-(j+1)<(bigB u.toNat k).length:=by omega
    rw[show k-1-j=k-(j+1) by omega,List.getElem?_eq_getElem hlt]at hg
    have htk:(bigB u.toNat k).take (k-j)=(bigB u.toNat k).take (k-(j+1))++[UInt8.ofNat (u.toNat>>>(8 * j))]:=by
      rw[show k-j=(k-(j+1))+1 by omega,← Option.some.inj hg,List.take_append_getElem]
    have hby:=byte_of (m:=j) hu (by omega)
    refine WC.seq<|WC.seq<|WC.region ?_
    refine WL.q rfl (r_move rfl) ?_
    refine WL.q rfl (r_cmp (r_geq rfl rfl) (decide_eq_true (by omega))) ?_
    refine WL.nil ?_
    refine WC.condT rfl ?_
    refine WC.skip ?_
    refine WC.seq<|WC.block ?_
    refine WC.region ?_
    refine WL.q rfl (r_move rfl) ?_
    refine WL.q rfl (r_move rfl) ?_
    refine WL.q rfl (r_move rfl) ?_
    refine WL.q rfl (r_muli (c:=8 * (j:Int)) rfl rfl (by omega) (by omega) (by omega)) ?_
    refine WL.q rfl (r_shr rfl rfl (by omega)) ?_
    refine WL.q rfl (r_cvIntE cv_22_5 rfl hby) ?_
    replace he:=he.then hE
    have hs1:=he.size
    refine WL.l rfl (l_lit (vs:=[_]) slz_27 rfl (by first|rfl|(simp[Value.cells,Nat.beq_eq, *];done)) rfl rfl rfl) fun _ w1 hh=>?_
    obtain⟨rfl,hb1,e1⟩:=hh
    replace hO:=hO.mono e1
    refine WL.l rfl (l_app slz_27 rfl rfl hO (Src.at slk_27 hb1.at rfl rfl) (by have:=e1.size;omega) (by simp only[maxLen];omega) (by omega)) fun v2 w2 hh=>?_
    obtain⟨hO,e2⟩:=hh
    refine WL.q rfl (r_assign rfl) ?_
    refine WL.nil ?_
    refine WC.region ?_
    refine WL.q rfl (r_move rfl) ?_
    refine WL.q rfl (r_subi rfl rfl rfl (by omega) (by omega)) ?_
    refine WL.q rfl (r_assign rfl) ?_
    refine WL.nil ?_
    have hO2:Own w.heap.size 5 1 w2 v2 (k-j) (bc ((bigB u.toNat k).take (k-j))):=by
      rw[htk,bc_append,show k-j=(k-(j+1))+1 by omega];exact hO
    exact⟨(j,v2),(.cons rfl (.cons rfl .nil)),(.cons rfl (.cons (lk_int rfl (by omega)) .nil)),⟨hO2,by omega,(((hE.then e1).then e2))⟩,(by show j<j+1;omega)⟩
end Go.Proofs.LL
set_option maxRecDepth 20000
namespace Go.Proofs.LL
open Go Go.Proofs Go.RowKit
theorem body_26:bodyB Tryz.prog 26=true:=by kernel_rfl
theorem fo_55_0:fOff Tryz.prog 55 0=some 0:=by kernel_rfl
theorem fo_55_1:fOff Tryz.prog 55 1=some 1:=by kernel_rfl
theorem bigN_ok{n k:Nat}{w:World}(hk:k≤8):
    Does Tryz.prog 26 [.int .u64 (n:Int),.int .i64 (k:Int)] w fun r w'=>Own w.heap.size 5 1 w' r (bigB n k).length (bc (bigB n k))∧Ext w w':=by
  have h:=big_ok (u:=(n:Int)) (w:=w) (Int.natCast_nonneg n) hk
  rw[Int.toNat_natCast]at h
  rw[bigB_length]
  exact h
theorem headed_ok{c:UInt8}{k n:Nat}{w:World}(hk:k≤8)(hn:n<18446744073709551616):
    Does Tryz.prog 19 [.agg #[.int .i64 (c.toNat:Int),.int .i64 (k:Int)],.int .u64 (n:Int)] w fun r w'=>Own w.heap.size 5 1 w' r (k+1) (bc (c::bigB n k))∧Ext w w':=by
  have hc:IntKind.u8.wrap (c.toNat:Int)=(c.toNat:Int):=by
    have:=UInt8.toNat_lt c
    rw[IntKind.wrap_u8];omega
  have hbl:=bigB_length n k
  refine does1 Tryz.func19 rfl rfl rfl ?_
  have hT:Since (fun _=>True) w w:=⟨Ext.refl _⟩
  refine WC.seq<|WC.region ?_
  refine WL.l rfl (l_boxAgg rfl) fun _ w1 hh=>?_
  obtain⟨rfl,hb1,e1⟩:=hh
  have nx1:=hb1.lt
  have ns1:w.heap.size≤w1.heap.size:=e1.size
  refine WL.q rfl (r_assign rfl) ?_
  refine WL.nil ?_
  replace hT:=hT.mono e1
  refine WC.seq<|WC.regionT (.q 0 (.q 1 (.q 2 (.q 4 (.q 5 (.q 6 (.alt (.l 3 (.l 7 (.l 8 (.q 9 (.nil))))) (.l 7 (.l 3 (.l 8 (.q 9 (.nil)))))))))))) (Ext _) mixed (by kernel_rfl) (Ext.drew _) ?_
  have nd1w1:w1.drew.heap.size=w1.heap.size:=rfl
  refine WX.q rfl rfl (fun _ hS=>r_fieldAddr rfl fo_55_0) ?_
  refine WX.q rfl rfl (fun _ hS=>r_load one_3 rfl hS (hb1.get rfl)) ?_
  refine WX.q rfl rfl (fun _ hS=>r_cvIntE cv_3_5 rfl hc) ?_
  refine WX.q rfl rfl (fun _ hS=>r_move rfl) ?_
  refine WX.q rfl rfl (fun _ hS=>r_fieldAddr rfl fo_55_1) ?_
  refine WX.q rfl rfl (fun _ hS=>r_load one_3 rfl hS (hb1.get rfl)) ?_
  refine WX.alt ?_ ?_
  · skip
    refine WX.l rfl rfl (l_litO (vs:=[_]) slz_27 rfl rfl rfl rfl rfl) fun v2 w2 hh=>?_
    obtain⟨rfl,hOl,e2⟩:=hh
    have hbl2:=hOl.lt _ rfl
    have ns2:w1.heap.size≤w2.heap.size:=e2.size
    refine⟨((Evo.drew _).then e2),?_⟩
    refine WX.l rfl rfl (l_do body_26 rfl (bigN_ok hk)) fun v3 w3 hh=>?_
    obtain⟨hOb,e3⟩:=hh
    obtain⟨q0,c0,hq0,_,_⟩:=hOb.form
    subst hq0
    have hZ1:=hOb.toB (A:=fun b=>w2.heap.size≤b∧b<w3.heap.size) (fun b hb hs=>⟨hb,hs⟩)
    have ns3:w2.heap.size≤w3.heap.size:=e3.size
    refine⟨(((Evo.drew _).then e2).then e3),?_⟩
    refine WX.l rfl rfl (l_app slz_27 rfl rfl (hOl.mono e3) (Src.isB slk_27 hZ1) (by omega) (by simp only[maxLen];omega) (by omega)) fun v4 w4 hh=>?_
    obtain⟨hO,e4⟩:=hh
    have ns4:w3.heap.size≤w4.heap.size:=e4.size
    refine⟨((((Evo.drew _).then e2).then e3).then e4),?_⟩
    refine WX.q rfl rfl (fun _ hS=>r_assign rfl) ?_
    refine WX.nil ?_
    refine WC.ret ?_
    replace hT:=(((hT.mono (Ext.drew _)).mono e2).mono e3).mono e4
    exact(fin1 rfl ⟨(hO.low (by omega)).cast (by omega) rfl,hT.evo⟩)
  · skip
    refine WX.l rfl rfl (l_do body_26 rfl (bigN_ok hk)) fun v2 w2 hh=>?_
    obtain⟨hOb,e2⟩:=hh
    obtain⟨q0,c0,hq0,_,_⟩:=hOb.form
    subst hq0
    have hZ1:=hOb.toB (A:=fun b=>w1.heap.size≤b∧b<w2.heap.size) (fun b hb hs=>⟨hb,hs⟩)
    have ns2:w1.heap.size≤w2.heap.size:=e2.size
    refine⟨((Evo.drew _).then e2),?_⟩
    refine WX.l rfl rfl (l_litO (vs:=[_]) slz_27 rfl rfl rfl rfl rfl) fun v3 w3 hh=>?_
    obtain⟨rfl,hOl,e3⟩:=hh
    have hbl3:=hOl.lt _ rfl
    have ns3:w2.heap.size≤w3.heap.size:=e3.size
    refine⟨(((Evo.drew _).then e2).then e3),?_⟩
    refine WX.l rfl rfl (l_app slz_27 rfl rfl hOl (Src.isB slk_27 (hZ1.mono e3)) (by omega) (by simp only[maxLen];omega) (by omega)) fun v4 w4 hh=>?_
    obtain⟨hO,e4⟩:=hh
    have ns4:w3.heap.size≤w4.heap.size:=e4.size
    refine⟨((((Evo.drew _).then e2).then e3).then e4),?_⟩
    refine WX.q rfl rfl (fun _ hS=>r_assign rfl) ?_
    refine WX.nil ?_
    refine WC.ret ?_
    replace hT:=(((hT.mono (Ext.drew _)).mono e2).mono e3).mono e4
    exact(fin1 rfl ⟨(hO.low (by omega)).cast (by omega) rfl,hT.evo⟩)
end Go.Proofs.LL
