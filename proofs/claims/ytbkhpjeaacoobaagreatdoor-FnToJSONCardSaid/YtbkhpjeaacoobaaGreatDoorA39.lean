/- Contracts of functions and own laws. Conditions: those that each theorem states. -/
import Derived.Test.YtbkhpjeaacoobaaGreatDoorA38
set_option linter.all false
set_option maxRecDepth 20000
namespace Go.Proofs.LL
open Go Go.Proofs Go.RowKit
theorem body_32:bodyB Tryz.prog 32=true:=by kernel_rfl
theorem body_33:bodyB Tryz.prog 33=true:=by kernel_rfl
theorem sg_plain:∀k:Fin 64,32≤(sg k.val).toNat∧sg k.val≠92∧sg k.val≠34∧(sg k.val).toNat<128:=by decide+kernel
def okB(b:UInt8):Prop:=32≤b.toNat∧b≠92∧b≠34∧b.toNat<128
theorem sg_ok{n:Nat}:okB (sg (n%64)):=sg_plain ⟨n%64,Nat.mod_lt _ (by decide)⟩
theorem grp_plain{n left:Nat}:∀b∈grp n left,okB b:=by
  intro b hb
  have h61:okB 61:=by unfold okB;decide
  simp only[grp,List.mem_cons,List.not_mem_nil,or_false]at hb
  rcases hb with rfl|rfl|rfl|rfl
  · exact sg_ok
  · exact sg_ok
  · split
    · exact sg_ok
    · exact h61
  · split
    · exact sg_ok
    · exact h61
theorem b64_plain:∀t:List UInt8,∀b∈b64 t,okB b
  |a::b::c::r=>fun x hx=>by
    rw[b64]at hx
    rcases List.mem_append.1 hx with h|h
    · exact grp_plain x h
    · exact b64_plain r x h
  |[a,b]=>fun x hx=>grp_plain x (by rw[b64]at hx;exact hx)
  |[a]=>fun x hx=>grp_plain x (by rw[b64]at hx;exact hx)
  |[]=>fun x hx=>by rw[b64]at hx;cases hx
theorem b64_qt(t:List UInt8):Qt (b64 t) (b64 t):=Qt.plain fun b hb=> .inr ⟨(b64_plain t b hb).1,(b64_plain t b hb).2.1,(b64_plain t b hb).2.2.1⟩
theorem b64_valid(t:List UInt8):Lib.validD (b64 t)=true:=by
  rw[Lib.validD_ascii (b64 t).length (b64 t) (fun b hb=>(b64_plain t b (List.mem_of_mem_take hb)).2.2.2),List.drop_length]
  exact Lib.validD_nil
theorem map_nj(ks:List Pk):nrmL (asJL ks)=ks.map nj:=by
  rw[nrmL_map,asJL_map,List.map_map];rfl
theorem val_one{k:Int}{n:Nat}{t:List UInt8}{o:Int}{ks:List Pk}(hks:∀x∈ks,VS x):VS (.mk k n t o ks):=by
  intro L lv bs r jb p s w hB hF hJ hN hK hd hr hL hv hU hj hs
  have hLp:=fits_pos hF
  have hsz:({data:=s.toArray}:ByteArray).size=s.length:=rfl
  obtain⟨b0,r0,qb0,qhd⟩:=jb_head hB
  have hd0:s.drop p=b0::(r0++r):=by rw[hd,qb0];rfl
  obtain⟨qp,hbP,_⟩:=drop_c hd0
  have hlt:=hK.lt
  rw[Fits]at hF
  rw[JOK]at hJ
  rw[N64]at hN
  rw[JB]at hB
  obtain⟨p0,p1,p2,p3,p4,p5,p6,p7,p8,p9,p10,pL⟩:=hF
  obtain⟨hn,hl,hNl⟩:=hN
  unfold VR
  unfold Jt at hK⊢
  rcases hB with⟨rfl,rfl⟩|⟨rfl,rfl,rfl⟩|⟨rfl,rfl,rfl⟩|⟨rfl,hn2,rfl⟩|⟨hk,rfl⟩|⟨rfl,q,hq,rfl⟩|⟨rfl,rfl⟩|⟨rfl,ps,hP,rfl⟩|⟨rfl,ps,hP,rfl⟩
  · have z0:=p4 (.inl rfl)
    subst z0
    have z1:=p2 (by omega)
    have z2:=p3 (by omega)
    have z3:=p5 (by omega)
    subst z1 z2 z3
    injection qb0 with qb1 _
    subst qb1
    refine doesR Tryz.func22 rfl rfl rfl ?_
    have he:Evo (fun k=>k<w.heap.size∧k≠jb) w w:=Evo.refl w
    refine WC.seq<|WC.region ?_
    have hs1:=he.size
    refine WL.l rfl (l_alloc zt_25 rfl) fun _ w1 hh=>?_
    obtain⟨rfl,hb1,e1⟩:=hh
    have nx1:=hb1.lt
    have ns1:w.heap.size≤w1.heap.size:=e1.size
    refine WL.nil ?_
    refine WC.seq<|WC.region ?_
    refine WL.q rfl (r_move rfl) ?_
    replace hK:=hK.mono e1
    refine WL.l rfl (l_do body_23 rfl (blank_ok hK (by omega) (by rw[hd0];exact NB.c qhd.1))) fun v2 w2 hh=>?_
    obtain⟨rfl,e2⟩:=hh
    have ns2:w1.heap.size≤w2.heap.size:=e2.size
    refine WL.nil ?_
    replace hK:=hK.mono e2
    replace hU:=(hU.mono e1).mono e2
    replace hb1:=hb1.mono e2
    refine WC.seq<|WC.seq<|WC.regionD [(true,0),(true,1),(true,2),(true,3),(true,4),(true,5),(true,6),(true,7),(true,8),(true,9),(true,10),(true,11),(true,12),(true,13),(true,14),(true,15),(true,16),(true,17),(true,18),(true,19)] (Ext _) mixed (by kernel_rfl) (Ext.drew _) ?_
    have nd1w2:w2.drew.heap.size=w2.heap.size:=rfl
    refine WD.q rfl (fun _ hS=>r_move rfl) ?_
    refine WD.q rfl (fun _ hS=>r_nilp rfl) ?_
    refine WD.q rfl (fun _ hS=>r_fieldAddr rfl fo_61_1) ?_
    refine WD.q rfl (fun _ hS=>r_load one_3 rfl hS (hK.get rfl)) ?_
    refine WD.q rfl (fun _ hS=>r_move rfl) ?_
    refine WD.q rfl (fun _ hS=>r_nilp rfl) ?_
    refine WD.q rfl (fun _ hS=>r_fieldAddr rfl fo_61_0) ?_
    refine WD.q rfl (fun _ hS=>r_load one_9 rfl hS (hK.get rfl)) ?_
    refine WD.q rfl (fun _ hS=>r_lens str_9 rfl) ?_
    refine WD.q rfl (fun _ hS=>r_cmp (r_geq rfl rfl) (decide_eq_false (by(omega)))) ?_
    refine WD.q rfl (fun _ hS=>r_move rfl) ?_
    refine WD.qg rfl rfl rfl rfl (fun _ hS=>r_move rfl) ?_
    refine WD.qg rfl rfl rfl rfl (fun _ hS=>r_cmp (r_leq rfl rfl) (decide_eq_false (by(omega)))) ?_
    refine WD.q rfl (fun _ hS=>r_pick rfl rfl rfl) ?_
    refine WD.q rfl (fun _ hS=>r_move rfl) ?_
    refine WD.qg rfl rfl rfl rfl (fun _ hS=>r_move rfl) ?_
    refine WD.qg rfl rfl rfl rfl (fun _ hS=>r_nilp rfl) ?_
    refine WD.qg rfl rfl rfl rfl (fun _ hS=>r_fieldAddr rfl fo_61_2) ?_
    refine WD.qg rfl rfl rfl rfl (fun _ hS=>r_load one_4 rfl hS (hK.get rfl)) ?_
    refine WD.q rfl (fun _ hS=>r_pick rfl rfl rfl) ?_
    refine WD.nil ?_
    refine WC.condF rfl ?_
    refine WC.skip ?_
    replace hK:=hK.mono (Ext.drew _)
    replace hU:=hU.mono (Ext.drew _)
    replace hb1:=hb1.mono (Ext.drew _)
    refine WC.seq<|WC.seq<|WC.regionD [(true,0),(true,1),(true,2),(true,3),(true,4),(true,5),(true,6),(true,7),(true,8),(true,9)] (Ext _) mixed (by kernel_rfl) (Ext.drew _) ?_
    have nd2w2:w2.drew.drew.heap.size=w2.heap.size:=rfl
    have nd1w2:w2.drew.heap.size=w2.heap.size:=rfl
    refine WD.q rfl (fun _ hS=>r_move rfl) ?_
    refine WD.q rfl (fun _ hS=>r_nilp rfl) ?_
    refine WD.q rfl (fun _ hS=>r_fieldAddr rfl fo_61_0) ?_
    refine WD.q rfl (fun _ hS=>r_load one_9 rfl hS (hK.get rfl)) ?_
    refine WD.q rfl (fun _ hS=>r_move rfl) ?_
    refine WD.q rfl (fun _ hS=>r_nilp rfl) ?_
    refine WD.q rfl (fun _ hS=>r_fieldAddr rfl fo_61_1) ?_
    refine WD.q rfl (fun _ hS=>r_load one_3 rfl hS (hK.get rfl)) ?_
    refine WD.q rfl (fun _ hS=>r_idxs str_9 rfl rfl rfl (by assumption)) ?_
    refine WD.q rfl (fun _ hS=>r_assign rfl) ?_
    refine WD.nil ?_
    refine WC.block ?_
    refine WC.seq<|WC.region ?_
    refine WL.q rfl (r_move rfl) ?_
    replace hK:=hK.mono (Ext.drew _)
    refine WL.l rfl (l_do body_30 rfl (wordT_ok (t:=[110,117,108,108]) hK (by omega) (by rw[hd];rfl) hs)) fun v3 w3 hh=>?_
    obtain⟨rfl,hK,e3⟩:=hh
    have ns3:w2.heap.size≤w3.heap.size:=e3.size
    refine WL.q rfl (r_assign rfl) ?_
    refine WL.nil ?_
    refine WC.condT rfl ?_
    refine WC.seq<|WC.region ?_
    refine WL.q rfl (r_bld (cs:=[_,_,_,_,_]) bld_25 rfl rfl) ?_
    replace hb1:=(hb1.mono (Ext.drew _)).mono e3
    refine WL.l0 (l_storeW sz_25 rfl rfl (by first|rfl|assumption|(simp[*];done)|simp[Value.oneCell', *]) (by first|rfl|simp[*]) hb1 (by first|rfl|simp[*])) fun _ w4 hh=>?_
    obtain⟨hb1,e4,hz4⟩:=hh
    have ns4:w3.heap.size≤w4.heap.size:=e4.size
    refine WL.nil ?_
    refine WC.ret ?_
    replace hK:=hK.mono e4
    replace he:=(((((he.then e1).then e2).then (Ext.drew _)).then (Ext.drew _)).then e3).then e4
    exact finC rfl hb1 rfl ⟨⟨_,rfl,rfl,rfl,rep0⟩,Jc hK (by simp),he.weaken fun k h1 h2=>⟨h1,h2⟩⟩
  · skip
    have z1:=p2 (by omega)
    have z2:=p3 (by omega)
    have z3:=p5 (by omega)
    subst z1 z2 z3
    injection qb0 with qb1 _
    subst qb1
    refine doesR Tryz.func22 rfl rfl rfl ?_
    have he:Evo (fun k=>k<w.heap.size∧k≠jb) w w:=Evo.refl w
    refine WC.seq<|WC.region ?_
    have hs1:=he.size
    refine WL.l rfl (l_alloc zt_25 rfl) fun _ w1 hh=>?_
    obtain⟨rfl,hb1,e1⟩:=hh
    have nx1:=hb1.lt
    have ns1:w.heap.size≤w1.heap.size:=e1.size
    refine WL.nil ?_
    refine WC.seq<|WC.region ?_
    refine WL.q rfl (r_move rfl) ?_
    replace hK:=hK.mono e1
    refine WL.l rfl (l_do body_23 rfl (blank_ok hK (by omega) (by rw[hd0];exact NB.c qhd.1))) fun v2 w2 hh=>?_
    obtain⟨rfl,e2⟩:=hh
    have ns2:w1.heap.size≤w2.heap.size:=e2.size
    refine WL.nil ?_
    replace hK:=hK.mono e2
    replace hU:=(hU.mono e1).mono e2
    replace hb1:=hb1.mono e2
    refine WC.seq<|WC.seq<|WC.regionD [(true,0),(true,1),(true,2),(true,3),(true,4),(true,5),(true,6),(true,7),(true,8),(true,9),(true,10),(true,11),(true,12),(true,13),(true,14),(true,15),(true,16),(true,17),(true,18),(true,19)] (Ext _) mixed (by kernel_rfl) (Ext.drew _) ?_
    have nd1w2:w2.drew.heap.size=w2.heap.size:=rfl
    refine WD.q rfl (fun _ hS=>r_move rfl) ?_
    refine WD.q rfl (fun _ hS=>r_nilp rfl) ?_
    refine WD.q rfl (fun _ hS=>r_fieldAddr rfl fo_61_1) ?_
    refine WD.q rfl (fun _ hS=>r_load one_3 rfl hS (hK.get rfl)) ?_
    refine WD.q rfl (fun _ hS=>r_move rfl) ?_
    refine WD.q rfl (fun _ hS=>r_nilp rfl) ?_
    refine WD.q rfl (fun _ hS=>r_fieldAddr rfl fo_61_0) ?_
    refine WD.q rfl (fun _ hS=>r_load one_9 rfl hS (hK.get rfl)) ?_
    refine WD.q rfl (fun _ hS=>r_lens str_9 rfl) ?_
    refine WD.q rfl (fun _ hS=>r_cmp (r_geq rfl rfl) (decide_eq_false (by(omega)))) ?_
    refine WD.q rfl (fun _ hS=>r_move rfl) ?_
    refine WD.qg rfl rfl rfl rfl (fun _ hS=>r_move rfl) ?_
    refine WD.qg rfl rfl rfl rfl (fun _ hS=>r_cmp (r_leq rfl rfl) (decide_eq_false (by(omega)))) ?_
    refine WD.q rfl (fun _ hS=>r_pick rfl rfl rfl) ?_
    refine WD.q rfl (fun _ hS=>r_move rfl) ?_
    refine WD.qg rfl rfl rfl rfl (fun _ hS=>r_move rfl) ?_
    refine WD.qg rfl rfl rfl rfl (fun _ hS=>r_nilp rfl) ?_
    refine WD.qg rfl rfl rfl rfl (fun _ hS=>r_fieldAddr rfl fo_61_2) ?_
    refine WD.qg rfl rfl rfl rfl (fun _ hS=>r_load one_4 rfl hS (hK.get rfl)) ?_
    refine WD.q rfl (fun _ hS=>r_pick rfl rfl rfl) ?_
    refine WD.nil ?_
    refine WC.condF rfl ?_
    refine WC.skip ?_
    replace hK:=hK.mono (Ext.drew _)
    replace hU:=hU.mono (Ext.drew _)
    replace hb1:=hb1.mono (Ext.drew _)
    refine WC.seq<|WC.seq<|WC.regionD [(true,0),(true,1),(true,2),(true,3),(true,4),(true,5),(true,6),(true,7),(true,8),(true,9)] (Ext _) mixed (by kernel_rfl) (Ext.drew _) ?_
    have nd2w2:w2.drew.drew.heap.size=w2.heap.size:=rfl
    have nd1w2:w2.drew.heap.size=w2.heap.size:=rfl
    refine WD.q rfl (fun _ hS=>r_move rfl) ?_
    refine WD.q rfl (fun _ hS=>r_nilp rfl) ?_
    refine WD.q rfl (fun _ hS=>r_fieldAddr rfl fo_61_0) ?_
    refine WD.q rfl (fun _ hS=>r_load one_9 rfl hS (hK.get rfl)) ?_
    refine WD.q rfl (fun _ hS=>r_move rfl) ?_
    refine WD.q rfl (fun _ hS=>r_nilp rfl) ?_
    refine WD.q rfl (fun _ hS=>r_fieldAddr rfl fo_61_1) ?_
    refine WD.q rfl (fun _ hS=>r_load one_3 rfl hS (hK.get rfl)) ?_
    refine WD.q rfl (fun _ hS=>r_idxs str_9 rfl rfl rfl (by assumption)) ?_
    refine WD.q rfl (fun _ hS=>r_assign rfl) ?_
    refine WD.nil ?_
    refine WC.block ?_
    refine WC.seq<|WC.region ?_
    refine WL.q rfl (r_move rfl) ?_
    replace hK:=hK.mono (Ext.drew _)
    refine WL.l rfl (l_do body_30 rfl (wordF_ok (c:=110) (t:=[117,108,108]) hK (by omega) hd0 (by decide) hs (by decide))) fun v3 w3 hh=>?_
    obtain⟨rfl,e3⟩:=hh
    have ns3:w2.heap.size≤w3.heap.size:=e3.size
    refine WL.q rfl (r_assign rfl) ?_
    refine WL.nil ?_
    refine WC.condF rfl ?_
    refine WC.seq<|WC.region ?_
    refine WL.q rfl (r_move rfl) ?_
    replace hK:=hK.mono e3
    refine WL.l rfl (l_do body_30 rfl (wordT_ok (t:=[116,114,117,101]) hK (by omega) (by rw[hd];rfl) hs)) fun v4 w4 hh=>?_
    obtain⟨rfl,hK,e4⟩:=hh
    have ns4:w3.heap.size≤w4.heap.size:=e4.size
    refine WL.q rfl (r_assign rfl) ?_
    refine WL.nil ?_
    refine WC.condT rfl ?_
    refine WC.seq<|WC.region ?_
    refine WL.q rfl (r_bld (cs:=[_,_,_,_,_]) bld_25 rfl rfl) ?_
    replace hb1:=((hb1.mono (Ext.drew _)).mono e3).mono e4
    refine WL.l0 (l_storeW sz_25 rfl rfl (by first|rfl|assumption|(simp[*];done)|simp[Value.oneCell', *]) (by first|rfl|simp[*]) hb1 (by first|rfl|simp[*])) fun _ w5 hh=>?_
    obtain⟨hb1,e5,hz5⟩:=hh
    have ns5:w4.heap.size≤w5.heap.size:=e5.size
    refine WL.nil ?_
    refine WC.ret ?_
    replace hK:=hK.mono e5
    replace he:=((((((he.then e1).then e2).then (Ext.drew _)).then (Ext.drew _)).then e3).then e4).then e5
    exact finC rfl hb1 rfl ⟨⟨_,rfl,rfl,rfl,rep0⟩,Jc hK (by simp),he.weaken fun k h1 h2=>⟨h1,h2⟩⟩
  · skip
    have z1:=p2 (by omega)
    have z2:=p3 (by omega)
    have z3:=p5 (by omega)
    subst z1 z2 z3
    injection qb0 with qb1 _
    subst qb1
    refine doesR Tryz.func22 rfl rfl rfl ?_
    have he:Evo (fun k=>k<w.heap.size∧k≠jb) w w:=Evo.refl w
    refine WC.seq<|WC.region ?_
    have hs1:=he.size
    refine WL.l rfl (l_alloc zt_25 rfl) fun _ w1 hh=>?_
    obtain⟨rfl,hb1,e1⟩:=hh
    have nx1:=hb1.lt
    have ns1:w.heap.size≤w1.heap.size:=e1.size
    refine WL.nil ?_
    refine WC.seq<|WC.region ?_
    refine WL.q rfl (r_move rfl) ?_
    replace hK:=hK.mono e1
    refine WL.l rfl (l_do body_23 rfl (blank_ok hK (by omega) (by rw[hd0];exact NB.c qhd.1))) fun v2 w2 hh=>?_
    obtain⟨rfl,e2⟩:=hh
    have ns2:w1.heap.size≤w2.heap.size:=e2.size
    refine WL.nil ?_
    replace hK:=hK.mono e2
    replace hU:=(hU.mono e1).mono e2
    replace hb1:=hb1.mono e2
    refine WC.seq<|WC.seq<|WC.regionD [(true,0),(true,1),(true,2),(true,3),(true,4),(true,5),(true,6),(true,7),(true,8),(true,9),(true,10),(true,11),(true,12),(true,13),(true,14),(true,15),(true,16),(true,17),(true,18),(true,19)] (Ext _) mixed (by kernel_rfl) (Ext.drew _) ?_
    have nd1w2:w2.drew.heap.size=w2.heap.size:=rfl
    refine WD.q rfl (fun _ hS=>r_move rfl) ?_
    refine WD.q rfl (fun _ hS=>r_nilp rfl) ?_
    refine WD.q rfl (fun _ hS=>r_fieldAddr rfl fo_61_1) ?_
    refine WD.q rfl (fun _ hS=>r_load one_3 rfl hS (hK.get rfl)) ?_
    refine WD.q rfl (fun _ hS=>r_move rfl) ?_
    refine WD.q rfl (fun _ hS=>r_nilp rfl) ?_
    refine WD.q rfl (fun _ hS=>r_fieldAddr rfl fo_61_0) ?_
    refine WD.q rfl (fun _ hS=>r_load one_9 rfl hS (hK.get rfl)) ?_
    refine WD.q rfl (fun _ hS=>r_lens str_9 rfl) ?_
    refine WD.q rfl (fun _ hS=>r_cmp (r_geq rfl rfl) (decide_eq_false (by(omega)))) ?_
    refine WD.q rfl (fun _ hS=>r_move rfl) ?_
    refine WD.qg rfl rfl rfl rfl (fun _ hS=>r_move rfl) ?_
    refine WD.qg rfl rfl rfl rfl (fun _ hS=>r_cmp (r_leq rfl rfl) (decide_eq_false (by(omega)))) ?_
    refine WD.q rfl (fun _ hS=>r_pick rfl rfl rfl) ?_
    refine WD.q rfl (fun _ hS=>r_move rfl) ?_
    refine WD.qg rfl rfl rfl rfl (fun _ hS=>r_move rfl) ?_
    refine WD.qg rfl rfl rfl rfl (fun _ hS=>r_nilp rfl) ?_
    refine WD.qg rfl rfl rfl rfl (fun _ hS=>r_fieldAddr rfl fo_61_2) ?_
    refine WD.qg rfl rfl rfl rfl (fun _ hS=>r_load one_4 rfl hS (hK.get rfl)) ?_
    refine WD.q rfl (fun _ hS=>r_pick rfl rfl rfl) ?_
    refine WD.nil ?_
    refine WC.condF rfl ?_
    refine WC.skip ?_
    replace hK:=hK.mono (Ext.drew _)
    replace hU:=hU.mono (Ext.drew _)
    replace hb1:=hb1.mono (Ext.drew _)
    refine WC.seq<|WC.seq<|WC.regionD [(true,0),(true,1),(true,2),(true,3),(true,4),(true,5),(true,6),(true,7),(true,8),(true,9)] (Ext _) mixed (by kernel_rfl) (Ext.drew _) ?_
    have nd2w2:w2.drew.drew.heap.size=w2.heap.size:=rfl
    have nd1w2:w2.drew.heap.size=w2.heap.size:=rfl
    refine WD.q rfl (fun _ hS=>r_move rfl) ?_
    refine WD.q rfl (fun _ hS=>r_nilp rfl) ?_
    refine WD.q rfl (fun _ hS=>r_fieldAddr rfl fo_61_0) ?_
    refine WD.q rfl (fun _ hS=>r_load one_9 rfl hS (hK.get rfl)) ?_
    refine WD.q rfl (fun _ hS=>r_move rfl) ?_
    refine WD.q rfl (fun _ hS=>r_nilp rfl) ?_
    refine WD.q rfl (fun _ hS=>r_fieldAddr rfl fo_61_1) ?_
    refine WD.q rfl (fun _ hS=>r_load one_3 rfl hS (hK.get rfl)) ?_
    refine WD.q rfl (fun _ hS=>r_idxs str_9 rfl rfl rfl (by assumption)) ?_
    refine WD.q rfl (fun _ hS=>r_assign rfl) ?_
    refine WD.nil ?_
    refine WC.block ?_
    refine WC.seq<|WC.region ?_
    refine WL.q rfl (r_move rfl) ?_
    replace hK:=hK.mono (Ext.drew _)
    refine WL.l rfl (l_do body_30 rfl (wordF_ok (c:=110) (t:=[117,108,108]) hK (by omega) hd0 (by decide) hs (by decide))) fun v3 w3 hh=>?_
    obtain⟨rfl,e3⟩:=hh
    have ns3:w2.heap.size≤w3.heap.size:=e3.size
    refine WL.q rfl (r_assign rfl) ?_
    refine WL.nil ?_
    refine WC.condF rfl ?_
    refine WC.seq<|WC.region ?_
    refine WL.q rfl (r_move rfl) ?_
    replace hK:=hK.mono e3
    refine WL.l rfl (l_do body_30 rfl (wordF_ok (c:=116) (t:=[114,117,101]) hK (by omega) hd0 (by decide) hs (by decide))) fun v4 w4 hh=>?_
    obtain⟨rfl,e4⟩:=hh
    have ns4:w3.heap.size≤w4.heap.size:=e4.size
    refine WL.q rfl (r_assign rfl) ?_
    refine WL.nil ?_
    refine WC.condF rfl ?_
    refine WC.seq<|WC.region ?_
    refine WL.q rfl (r_move rfl) ?_
    replace hK:=hK.mono e4
    refine WL.l rfl (l_do body_30 rfl (wordT_ok (t:=[102,97,108,115,101]) hK (by omega) (by rw[hd];rfl) hs)) fun v5 w5 hh=>?_
    obtain⟨rfl,hK,e5⟩:=hh
    have ns5:w4.heap.size≤w5.heap.size:=e5.size
    refine WL.q rfl (r_assign rfl) ?_
    refine WL.nil ?_
    refine WC.condT rfl ?_
    refine WC.seq<|WC.region ?_
    refine WL.q rfl (r_bld (cs:=[_,_,_,_,_]) bld_25 rfl rfl) ?_
    replace hb1:=(((hb1.mono (Ext.drew _)).mono e3).mono e4).mono e5
    refine WL.l0 (l_storeW sz_25 rfl rfl (by first|rfl|assumption|(simp[*];done)|simp[Value.oneCell', *]) (by first|rfl|simp[*]) hb1 (by first|rfl|simp[*])) fun _ w6 hh=>?_
    obtain⟨hb1,e6,hz6⟩:=hh
    have ns6:w5.heap.size≤w6.heap.size:=e6.size
    refine WL.nil ?_
    refine WC.ret ?_
    replace hK:=hK.mono e6
    replace he:=(((((((he.then e1).then e2).then (Ext.drew _)).then (Ext.drew _)).then e3).then e4).then e5).then e6
    exact finC rfl hb1 rfl ⟨⟨_,rfl,rfl,rfl,rep0⟩,Jc hK (by simp),he.weaken fun k h1 h2=>⟨h1,h2⟩⟩
  · skip
    have z1:=p2 (by omega)
    have z2:=p3 (by omega)
    have z3:=p5 (by omega)
    subst z1 z2 z3
    injection qb0 with qb1 _
    subst qb1
    obtain⟨u,qu⟩:∃u,u=18446744073709551616-n:=⟨_,rfl⟩
    rw[← qu]at hd⊢
    refine doesR Tryz.func22 rfl rfl rfl ?_
    have he:Evo (fun k=>k<w.heap.size∧k≠jb) w w:=Evo.refl w
    refine WC.seq<|WC.region ?_
    have hs1:=he.size
    refine WL.l rfl (l_alloc zt_25 rfl) fun _ w1 hh=>?_
    obtain⟨rfl,hb1,e1⟩:=hh
    have nx1:=hb1.lt
    have ns1:w.heap.size≤w1.heap.size:=e1.size
    refine WL.nil ?_
    refine WC.seq<|WC.region ?_
    refine WL.q rfl (r_move rfl) ?_
    replace hK:=hK.mono e1
    refine WL.l rfl (l_do body_23 rfl (blank_ok hK (by omega) (by rw[hd0];exact NB.c qhd.1))) fun v2 w2 hh=>?_
    obtain⟨rfl,e2⟩:=hh
    have ns2:w1.heap.size≤w2.heap.size:=e2.size
    refine WL.nil ?_
    replace hK:=hK.mono e2
    replace hU:=(hU.mono e1).mono e2
    replace hb1:=hb1.mono e2
    refine WC.seq<|WC.seq<|WC.regionD [(true,0),(true,1),(true,2),(true,3),(true,4),(true,5),(true,6),(true,7),(true,8),(true,9),(true,10),(true,11),(true,12),(true,13),(true,14),(true,15),(true,16),(true,17),(true,18),(true,19)] (Ext _) mixed (by kernel_rfl) (Ext.drew _) ?_
    have nd1w2:w2.drew.heap.size=w2.heap.size:=rfl
    refine WD.q rfl (fun _ hS=>r_move rfl) ?_
    refine WD.q rfl (fun _ hS=>r_nilp rfl) ?_
    refine WD.q rfl (fun _ hS=>r_fieldAddr rfl fo_61_1) ?_
    refine WD.q rfl (fun _ hS=>r_load one_3 rfl hS (hK.get rfl)) ?_
    refine WD.q rfl (fun _ hS=>r_move rfl) ?_
    refine WD.q rfl (fun _ hS=>r_nilp rfl) ?_
    refine WD.q rfl (fun _ hS=>r_fieldAddr rfl fo_61_0) ?_
    refine WD.q rfl (fun _ hS=>r_load one_9 rfl hS (hK.get rfl)) ?_
    refine WD.q rfl (fun _ hS=>r_lens str_9 rfl) ?_
    refine WD.q rfl (fun _ hS=>r_cmp (r_geq rfl rfl) (decide_eq_false (by(omega)))) ?_
    refine WD.q rfl (fun _ hS=>r_move rfl) ?_
    refine WD.qg rfl rfl rfl rfl (fun _ hS=>r_move rfl) ?_
    refine WD.qg rfl rfl rfl rfl (fun _ hS=>r_cmp (r_leq rfl rfl) (decide_eq_false (by(omega)))) ?_
    refine WD.q rfl (fun _ hS=>r_pick rfl rfl rfl) ?_
    refine WD.q rfl (fun _ hS=>r_move rfl) ?_
    refine WD.qg rfl rfl rfl rfl (fun _ hS=>r_move rfl) ?_
    refine WD.qg rfl rfl rfl rfl (fun _ hS=>r_nilp rfl) ?_
    refine WD.qg rfl rfl rfl rfl (fun _ hS=>r_fieldAddr rfl fo_61_2) ?_
    refine WD.qg rfl rfl rfl rfl (fun _ hS=>r_load one_4 rfl hS (hK.get rfl)) ?_
    refine WD.q rfl (fun _ hS=>r_pick rfl rfl rfl) ?_
    refine WD.nil ?_
    refine WC.condF rfl ?_
    refine WC.skip ?_
    replace hK:=hK.mono (Ext.drew _)
    replace hU:=hU.mono (Ext.drew _)
    replace hb1:=hb1.mono (Ext.drew _)
    refine WC.seq<|WC.seq<|WC.regionD [(true,0),(true,1),(true,2),(true,3),(true,4),(true,5),(true,6),(true,7),(true,8),(true,9)] (Ext _) mixed (by kernel_rfl) (Ext.drew _) ?_
    have nd2w2:w2.drew.drew.heap.size=w2.heap.size:=rfl
    have nd1w2:w2.drew.heap.size=w2.heap.size:=rfl
    refine WD.q rfl (fun _ hS=>r_move rfl) ?_
    refine WD.q rfl (fun _ hS=>r_nilp rfl) ?_
    refine WD.q rfl (fun _ hS=>r_fieldAddr rfl fo_61_0) ?_
    refine WD.q rfl (fun _ hS=>r_load one_9 rfl hS (hK.get rfl)) ?_
    refine WD.q rfl (fun _ hS=>r_move rfl) ?_
    refine WD.q rfl (fun _ hS=>r_nilp rfl) ?_
    refine WD.q rfl (fun _ hS=>r_fieldAddr rfl fo_61_1) ?_
    refine WD.q rfl (fun _ hS=>r_load one_3 rfl hS (hK.get rfl)) ?_
    refine WD.q rfl (fun _ hS=>r_idxs str_9 rfl rfl rfl (by assumption)) ?_
    refine WD.q rfl (fun _ hS=>r_assign rfl) ?_
    refine WD.nil ?_
    refine WC.block ?_
    refine WC.seq<|WC.region ?_
    refine WL.q rfl (r_move rfl) ?_
    replace hK:=hK.mono (Ext.drew _)
    refine WL.l rfl (l_do body_30 rfl (wordF_ok (c:=110) (t:=[117,108,108]) hK (by omega) hd0 (by decide) hs (by decide))) fun v3 w3 hh=>?_
    obtain⟨rfl,e3⟩:=hh
    have ns3:w2.heap.size≤w3.heap.size:=e3.size
    refine WL.q rfl (r_assign rfl) ?_
    refine WL.nil ?_
    refine WC.condF rfl ?_
    refine WC.seq<|WC.region ?_
    refine WL.q rfl (r_move rfl) ?_
    replace hK:=hK.mono e3
    refine WL.l rfl (l_do body_30 rfl (wordF_ok (c:=116) (t:=[114,117,101]) hK (by omega) hd0 (by decide) hs (by decide))) fun v4 w4 hh=>?_
    obtain⟨rfl,e4⟩:=hh
    have ns4:w3.heap.size≤w4.heap.size:=e4.size
    refine WL.q rfl (r_assign rfl) ?_
    refine WL.nil ?_
    refine WC.condF rfl ?_
    refine WC.seq<|WC.region ?_
    refine WL.q rfl (r_move rfl) ?_
    replace hK:=hK.mono e4
    refine WL.l rfl (l_do body_30 rfl (wordF_ok (c:=102) (t:=[97,108,115,101]) hK (by omega) hd0 (by decide) hs (by decide))) fun v5 w5 hh=>?_
    obtain⟨rfl,e5⟩:=hh
    have ns5:w4.heap.size≤w5.heap.size:=e5.size
    refine WL.q rfl (r_assign rfl) ?_
    refine WL.nil ?_
    refine WC.condF rfl ?_
    refine WC.seq<|WC.region ?_
    refine WL.q rfl (r_move rfl) ?_
    refine WL.q rfl (r_cmp (r_eql rfl rfl) (beqF (by(decide)))) ?_
    refine WL.q rfl (r_assign rfl) ?_
    refine WL.nil ?_
    refine WC.condF rfl ?_
    refine WC.seq<|WC.region ?_
    refine WL.q rfl (r_move rfl) ?_
    refine WL.q rfl (r_cmp (r_eql rfl rfl) (beqF (by(decide)))) ?_
    refine WL.q rfl (r_assign rfl) ?_
    refine WL.nil ?_
    refine WC.condF rfl ?_
    refine WC.seq<|WC.region ?_
    refine WL.q rfl (r_move rfl) ?_
    refine WL.q rfl (r_cmp (r_eql rfl rfl) (beqF (by(decide)))) ?_
    refine WL.q rfl (r_assign rfl) ?_
    refine WL.nil ?_
    refine WC.condF rfl ?_
    refine WC.skip ?_
    refine WC.seq<|WC.region ?_
    refine WL.q rfl (r_move rfl) ?_
    replace hK:=hK.mono e5
    refine WL.l rfl (l_do body_33 rfl (numN_ok hK hd (by omega) (by omega) hr hs)) fun v6 w6 hh=>?_
    obtain⟨⟨ca,rfl,lca,oca,hR⟩,hK,e6⟩:=hh
    have ns6:w5.heap.size≤w6.heap.size:=e6.size
    replace hb1:=((((hb1.mono (Ext.drew _)).mono e3).mono e4).mono e5).mono e6
    refine WL.l0 (l_storeW sz_25 rfl rfl (by first|rfl|assumption|(simp[*];done)|simp[Value.oneCell', *]) (by first|rfl|simp[*]) hb1 (by first|rfl|simp[*])) fun _ w7 hh=>?_
    obtain⟨hb1,e7,hz7⟩:=hh
    have ns7:w6.heap.size≤w7.heap.size:=e7.size
    refine WL.nil ?_
    refine WC.ret ?_
    have qe:nrm (asJ (.mk 2 n [] 0 []))= .mk 2 (18446744073709551616-u) [] 0 []:=by
      rw[asJ,if_neg (by decide),if_neg (by decide),nrm,nk,if_neg (by omega),nrmL,qu,show 18446744073709551616-(18446744073709551616-n)=n by omega]
    rw[qe]
    replace hK:=hK.mono e7
    replace hR:=hR.mono e7
    replace he:=((((((((he.then e1).then e2).then (Ext.drew _)).then (Ext.drew _)).then e3).then e4).then e5).then e6).then e7
    exact finC rfl hb1 (by rw[lca];rfl) ⟨⟨_,rfl,lca,oca,hR.weaken fun b h=>by show _≤b;omega⟩,Jc hK (by simp;omega),he.weaken fun k h1 h2=>⟨h1,h2⟩⟩
  · obtain⟨c0,r1,qdd,q48,q57⟩:=dd_cons n
    have z1:=p2 (by rcases hk with⟨hk,_⟩|hk<;>omega)
    have z2:=p3 (by rcases hk with⟨hk,_⟩|hk<;>omega)
    have z3:=p5 (by rcases hk with⟨hk,_⟩|hk<;>omega)
    subst z1 z2 z3
    have qcb:c0=b0:=by rw[qdd]at qb0;injection qb0
    subst qcb
    refine doesR Tryz.func22 rfl rfl rfl ?_
    have he:Evo (fun k=>k<w.heap.size∧k≠jb) w w:=Evo.refl w
    refine WC.seq<|WC.region ?_
    have hs1:=he.size
    refine WL.l rfl (l_alloc zt_25 rfl) fun _ w1 hh=>?_
    obtain⟨rfl,hb1,e1⟩:=hh
    have nx1:=hb1.lt
    have ns1:w.heap.size≤w1.heap.size:=e1.size
    refine WL.nil ?_
    refine WC.seq<|WC.region ?_
    refine WL.q rfl (r_move rfl) ?_
    replace hK:=hK.mono e1
    refine WL.l rfl (l_do body_23 rfl (blank_ok hK (by omega) (by rw[hd0];exact NB.c qhd.1))) fun v2 w2 hh=>?_
    obtain⟨rfl,e2⟩:=hh
    have ns2:w1.heap.size≤w2.heap.size:=e2.size
    refine WL.nil ?_
    replace hK:=hK.mono e2
    replace hU:=(hU.mono e1).mono e2
    replace hb1:=hb1.mono e2
    refine WC.seq<|WC.seq<|WC.regionD [(true,0),(true,1),(true,2),(true,3),(true,4),(true,5),(true,6),(true,7),(true,8),(true,9),(true,10),(true,11),(true,12),(true,13),(true,14),(true,15),(true,16),(true,17),(true,18),(true,19)] (Ext _) mixed (by kernel_rfl) (Ext.drew _) ?_
    have nd1w2:w2.drew.heap.size=w2.heap.size:=rfl
    refine WD.q rfl (fun _ hS=>r_move rfl) ?_
    refine WD.q rfl (fun _ hS=>r_nilp rfl) ?_
    refine WD.q rfl (fun _ hS=>r_fieldAddr rfl fo_61_1) ?_
    refine WD.q rfl (fun _ hS=>r_load one_3 rfl hS (hK.get rfl)) ?_
    refine WD.q rfl (fun _ hS=>r_move rfl) ?_
    refine WD.q rfl (fun _ hS=>r_nilp rfl) ?_
    refine WD.q rfl (fun _ hS=>r_fieldAddr rfl fo_61_0) ?_
    refine WD.q rfl (fun _ hS=>r_load one_9 rfl hS (hK.get rfl)) ?_
    refine WD.q rfl (fun _ hS=>r_lens str_9 rfl) ?_
    refine WD.q rfl (fun _ hS=>r_cmp (r_geq rfl rfl) (decide_eq_false (by(omega)))) ?_
    refine WD.q rfl (fun _ hS=>r_move rfl) ?_
    refine WD.qg rfl rfl rfl rfl (fun _ hS=>r_move rfl) ?_
    refine WD.qg rfl rfl rfl rfl (fun _ hS=>r_cmp (r_leq rfl rfl) (decide_eq_false (by(omega)))) ?_
    refine WD.q rfl (fun _ hS=>r_pick rfl rfl rfl) ?_
    refine WD.q rfl (fun _ hS=>r_move rfl) ?_
    refine WD.qg rfl rfl rfl rfl (fun _ hS=>r_move rfl) ?_
    refine WD.qg rfl rfl rfl rfl (fun _ hS=>r_nilp rfl) ?_
    refine WD.qg rfl rfl rfl rfl (fun _ hS=>r_fieldAddr rfl fo_61_2) ?_
    refine WD.qg rfl rfl rfl rfl (fun _ hS=>r_load one_4 rfl hS (hK.get rfl)) ?_
    refine WD.q rfl (fun _ hS=>r_pick rfl rfl rfl) ?_
    refine WD.nil ?_
    refine WC.condF rfl ?_
    refine WC.skip ?_
    replace hK:=hK.mono (Ext.drew _)
    replace hU:=hU.mono (Ext.drew _)
    replace hb1:=hb1.mono (Ext.drew _)
    refine WC.seq<|WC.seq<|WC.regionD [(true,0),(true,1),(true,2),(true,3),(true,4),(true,5),(true,6),(true,7),(true,8),(true,9)] (Ext _) mixed (by kernel_rfl) (Ext.drew _) ?_
    have nd2w2:w2.drew.drew.heap.size=w2.heap.size:=rfl
    have nd1w2:w2.drew.heap.size=w2.heap.size:=rfl
    refine WD.q rfl (fun _ hS=>r_move rfl) ?_
    refine WD.q rfl (fun _ hS=>r_nilp rfl) ?_
    refine WD.q rfl (fun _ hS=>r_fieldAddr rfl fo_61_0) ?_
    refine WD.q rfl (fun _ hS=>r_load one_9 rfl hS (hK.get rfl)) ?_
    refine WD.q rfl (fun _ hS=>r_move rfl) ?_
    refine WD.q rfl (fun _ hS=>r_nilp rfl) ?_
    refine WD.q rfl (fun _ hS=>r_fieldAddr rfl fo_61_1) ?_
    refine WD.q rfl (fun _ hS=>r_load one_3 rfl hS (hK.get rfl)) ?_
    refine WD.q rfl (fun _ hS=>r_idxs str_9 rfl rfl rfl (by assumption)) ?_
    refine WD.q rfl (fun _ hS=>r_assign rfl) ?_
    refine WD.nil ?_
    refine WC.block ?_
    refine WC.seq<|WC.region ?_
    refine WL.q rfl (r_move rfl) ?_
    replace hK:=hK.mono (Ext.drew _)
    refine WL.l rfl (l_do body_30 rfl (wordF_ok (c:=110) (t:=[117,108,108]) hK (by omega) hd0 (by intro e;rw[e]at q57;revert q57;decide) hs (by decide))) fun v3 w3 hh=>?_
    obtain⟨rfl,e3⟩:=hh
    have ns3:w2.heap.size≤w3.heap.size:=e3.size
    refine WL.q rfl (r_assign rfl) ?_
    refine WL.nil ?_
    refine WC.condF rfl ?_
    refine WC.seq<|WC.region ?_
    refine WL.q rfl (r_move rfl) ?_
    replace hK:=hK.mono e3
    refine WL.l rfl (l_do body_30 rfl (wordF_ok (c:=116) (t:=[114,117,101]) hK (by omega) hd0 (by intro e;rw[e]at q57;revert q57;decide) hs (by decide))) fun v4 w4 hh=>?_
    obtain⟨rfl,e4⟩:=hh
    have ns4:w3.heap.size≤w4.heap.size:=e4.size
    refine WL.q rfl (r_assign rfl) ?_
    refine WL.nil ?_
    refine WC.condF rfl ?_
    refine WC.seq<|WC.region ?_
    refine WL.q rfl (r_move rfl) ?_
    replace hK:=hK.mono e4
    refine WL.l rfl (l_do body_30 rfl (wordF_ok (c:=102) (t:=[97,108,115,101]) hK (by omega) hd0 (by intro e;rw[e]at q57;revert q57;decide) hs (by decide))) fun v5 w5 hh=>?_
    obtain⟨rfl,e5⟩:=hh
    have ns5:w4.heap.size≤w5.heap.size:=e5.size
    refine WL.q rfl (r_assign rfl) ?_
    refine WL.nil ?_
    refine WC.condF rfl ?_
    refine WC.seq<|WC.region ?_
    refine WL.q rfl (r_move rfl) ?_
    refine WL.q rfl (r_cmp (r_eql rfl rfl) (beqF (by(omega)))) ?_
    refine WL.q rfl (r_assign rfl) ?_
    refine WL.nil ?_
    refine WC.condF rfl ?_
    refine WC.seq<|WC.region ?_
    refine WL.q rfl (r_move rfl) ?_
    refine WL.q rfl (r_cmp (r_eql rfl rfl) (beqF (by(omega)))) ?_
    refine WL.q rfl (r_assign rfl) ?_
    refine WL.nil ?_
    refine WC.condF rfl ?_
    refine WC.seq<|WC.region ?_
    refine WL.q rfl (r_move rfl) ?_
    refine WL.q rfl (r_cmp (r_eql rfl rfl) (beqF (by(omega)))) ?_
    refine WL.q rfl (r_assign rfl) ?_
    refine WL.nil ?_
    refine WC.condF rfl ?_
    refine WC.skip ?_
    refine WC.seq<|WC.region ?_
    refine WL.q rfl (r_move rfl) ?_
    replace hK:=hK.mono e5
    refine WL.l rfl (l_do body_33 rfl (numP_ok hK hd hn hr hs)) fun v6 w6 hh=>?_
    obtain⟨⟨ca,rfl,lca,oca,hR⟩,hK,e6⟩:=hh
    have ns6:w5.heap.size≤w6.heap.size:=e6.size
    replace hb1:=((((hb1.mono (Ext.drew _)).mono e3).mono e4).mono e5).mono e6
    refine WL.l0 (l_storeW sz_25 rfl rfl (by first|rfl|assumption|(simp[*];done)|simp[Value.oneCell', *]) (by first|rfl|simp[*]) hb1 (by first|rfl|simp[*])) fun _ w7 hh=>?_
    obtain⟨hb1,e7,hz7⟩:=hh
    have ns7:w6.heap.size≤w7.heap.size:=e7.size
    refine WL.nil ?_
    refine WC.ret ?_
    have qe:nrm (asJ (.mk k n [] 0 []))= .mk 3 n [] 0 []:=by
      have q3:nk k n=3:=by unfold nk;rcases hk with hk|hk;rw[if_pos hk];rw[if_neg (by omega),hk]
      rw[asJ,if_neg (by rcases hk with⟨hk,_⟩|hk<;>omega),if_neg (by rcases hk with⟨hk,_⟩|hk<;>omega),nrm,q3,nrmL]
    rw[qe]
    replace hK:=hK.mono e7
    replace hR:=hR.mono e7
    replace he:=((((((((he.then e1).then e2).then (Ext.drew _)).then (Ext.drew _)).then e3).then e4).then e5).then e6).then e7
    exact finC rfl hb1 (by rw[lca];rfl) ⟨⟨_,rfl,lca,oca,hR.weaken fun b h=>by show _≤b;omega⟩,Jc hK (by omega),he.weaken fun k h1 h2=>⟨h1,h2⟩⟩
  · skip
    have z0:=p4 (.inr (by omega))
    have z1:=p2 (by omega)
    have z3:=p5 (by omega)
    subst z0 z1 z3
    injection qb0 with qb1 _
    subst qb1
    refine doesR Tryz.func22 rfl rfl rfl ?_
    have he:Evo (fun k=>k<w.heap.size∧k≠jb) w w:=Evo.refl w
    refine WC.seq<|WC.region ?_
    have hs1:=he.size
    refine WL.l rfl (l_alloc zt_25 rfl) fun _ w1 hh=>?_
    obtain⟨rfl,hb1,e1⟩:=hh
    have nx1:=hb1.lt
    have ns1:w.heap.size≤w1.heap.size:=e1.size
    refine WL.nil ?_
    refine WC.seq<|WC.region ?_
    refine WL.q rfl (r_move rfl) ?_
    replace hK:=hK.mono e1
    refine WL.l rfl (l_do body_23 rfl (blank_ok hK (by omega) (by rw[hd0];exact NB.c qhd.1))) fun v2 w2 hh=>?_
    obtain⟨rfl,e2⟩:=hh
    have ns2:w1.heap.size≤w2.heap.size:=e2.size
    refine WL.nil ?_
    replace hK:=hK.mono e2
    replace hU:=(hU.mono e1).mono e2
    replace hb1:=hb1.mono e2
    refine WC.seq<|WC.seq<|WC.regionD [(true,0),(true,1),(true,2),(true,3),(true,4),(true,5),(true,6),(true,7),(true,8),(true,9),(true,10),(true,11),(true,12),(true,13),(true,14),(true,15),(true,16),(true,17),(true,18),(true,19)] (Ext _) mixed (by kernel_rfl) (Ext.drew _) ?_
    have nd1w2:w2.drew.heap.size=w2.heap.size:=rfl
    refine WD.q rfl (fun _ hS=>r_move rfl) ?_
    refine WD.q rfl (fun _ hS=>r_nilp rfl) ?_
    refine WD.q rfl (fun _ hS=>r_fieldAddr rfl fo_61_1) ?_
    refine WD.q rfl (fun _ hS=>r_load one_3 rfl hS (hK.get rfl)) ?_
    refine WD.q rfl (fun _ hS=>r_move rfl) ?_
    refine WD.q rfl (fun _ hS=>r_nilp rfl) ?_
    refine WD.q rfl (fun _ hS=>r_fieldAddr rfl fo_61_0) ?_
    refine WD.q rfl (fun _ hS=>r_load one_9 rfl hS (hK.get rfl)) ?_
    refine WD.q rfl (fun _ hS=>r_lens str_9 rfl) ?_
    refine WD.q rfl (fun _ hS=>r_cmp (r_geq rfl rfl) (decide_eq_false (by(omega)))) ?_
    refine WD.q rfl (fun _ hS=>r_move rfl) ?_
    refine WD.qg rfl rfl rfl rfl (fun _ hS=>r_move rfl) ?_
    refine WD.qg rfl rfl rfl rfl (fun _ hS=>r_cmp (r_leq rfl rfl) (decide_eq_false (by(omega)))) ?_
    refine WD.q rfl (fun _ hS=>r_pick rfl rfl rfl) ?_
    refine WD.q rfl (fun _ hS=>r_move rfl) ?_
    refine WD.qg rfl rfl rfl rfl (fun _ hS=>r_move rfl) ?_
    refine WD.qg rfl rfl rfl rfl (fun _ hS=>r_nilp rfl) ?_
    refine WD.qg rfl rfl rfl rfl (fun _ hS=>r_fieldAddr rfl fo_61_2) ?_
    refine WD.qg rfl rfl rfl rfl (fun _ hS=>r_load one_4 rfl hS (hK.get rfl)) ?_
    refine WD.q rfl (fun _ hS=>r_pick rfl rfl rfl) ?_
    refine WD.nil ?_
    refine WC.condF rfl ?_
    refine WC.skip ?_
    replace hK:=hK.mono (Ext.drew _)
    replace hU:=hU.mono (Ext.drew _)
    replace hb1:=hb1.mono (Ext.drew _)
    refine WC.seq<|WC.seq<|WC.regionD [(true,0),(true,1),(true,2),(true,3),(true,4),(true,5),(true,6),(true,7),(true,8),(true,9)] (Ext _) mixed (by kernel_rfl) (Ext.drew _) ?_
    have nd2w2:w2.drew.drew.heap.size=w2.heap.size:=rfl
    have nd1w2:w2.drew.heap.size=w2.heap.size:=rfl
    refine WD.q rfl (fun _ hS=>r_move rfl) ?_
    refine WD.q rfl (fun _ hS=>r_nilp rfl) ?_
    refine WD.q rfl (fun _ hS=>r_fieldAddr rfl fo_61_0) ?_
    refine WD.q rfl (fun _ hS=>r_load one_9 rfl hS (hK.get rfl)) ?_
    refine WD.q rfl (fun _ hS=>r_move rfl) ?_
    refine WD.q rfl (fun _ hS=>r_nilp rfl) ?_
    refine WD.q rfl (fun _ hS=>r_fieldAddr rfl fo_61_1) ?_
    refine WD.q rfl (fun _ hS=>r_load one_3 rfl hS (hK.get rfl)) ?_
    refine WD.q rfl (fun _ hS=>r_idxs str_9 rfl rfl rfl (by assumption)) ?_
    refine WD.q rfl (fun _ hS=>r_assign rfl) ?_
    refine WD.nil ?_
    refine WC.block ?_
    refine WC.seq<|WC.region ?_
    refine WL.q rfl (r_move rfl) ?_
    replace hK:=hK.mono (Ext.drew _)
    refine WL.l rfl (l_do body_30 rfl (wordF_ok (c:=110) (t:=[117,108,108]) hK (by omega) hd0 (by decide) hs (by decide))) fun v3 w3 hh=>?_
    obtain⟨rfl,e3⟩:=hh
    have ns3:w2.heap.size≤w3.heap.size:=e3.size
    refine WL.q rfl (r_assign rfl) ?_
    refine WL.nil ?_
    refine WC.condF rfl ?_
    refine WC.seq<|WC.region ?_
    refine WL.q rfl (r_move rfl) ?_
    replace hK:=hK.mono e3
    refine WL.l rfl (l_do body_30 rfl (wordF_ok (c:=116) (t:=[114,117,101]) hK (by omega) hd0 (by decide) hs (by decide))) fun v4 w4 hh=>?_
    obtain⟨rfl,e4⟩:=hh
    have ns4:w3.heap.size≤w4.heap.size:=e4.size
    refine WL.q rfl (r_assign rfl) ?_
    refine WL.nil ?_
    refine WC.condF rfl ?_
    refine WC.seq<|WC.region ?_
    refine WL.q rfl (r_move rfl) ?_
    replace hK:=hK.mono e4
    refine WL.l rfl (l_do body_30 rfl (wordF_ok (c:=102) (t:=[97,108,115,101]) hK (by omega) hd0 (by decide) hs (by decide))) fun v5 w5 hh=>?_
    obtain⟨rfl,e5⟩:=hh
    have ns5:w4.heap.size≤w5.heap.size:=e5.size
    refine WL.q rfl (r_assign rfl) ?_
    refine WL.nil ?_
    refine WC.condF rfl ?_
    refine WC.seq<|WC.region ?_
    refine WL.q rfl (r_move rfl) ?_
    refine WL.q rfl (r_cmp (r_eql rfl rfl) (beqT (by(rfl)))) ?_
    refine WL.q rfl (r_assign rfl) ?_
    refine WL.nil ?_
    refine WC.condT rfl ?_
    refine WC.seq<|WC.region ?_
    refine WL.q rfl (r_move rfl) ?_
    replace hK:=hK.mono e5
    replace hU:=(((hU.mono (Ext.drew _)).mono e3).mono e4).mono e5
    refine WL.l rfl (l_do body_31 rfl (text_ok (r:=r) hK hq (by rw[hd];simp[qt]) (hJ.2.2.2.1 rfl) hU hj hs (by omega))) fun v6 w6 hh=>?_
    obtain⟨rfl,hK,e6⟩:=hh
    have ns6:w5.heap.size≤w6.heap.size:=e6.size
    refine WL.q rfl (r_bld (cs:=[_,_,_,_,_]) bld_25 rfl rfl) ?_
    replace hb1:=((((hb1.mono (Ext.drew _)).mono e3).mono e4).mono e5).mono e6
    refine WL.l0 (l_storeW sz_25 rfl rfl (by first|rfl|assumption|(simp[*];done)|simp[Value.oneCell', *]) (by first|rfl|simp[*]) hb1 (by first|rfl|simp[*])) fun _ w7 hh=>?_
    obtain⟨hb1,e7,hz7⟩:=hh
    have ns7:w6.heap.size≤w7.heap.size:=e7.size
    refine WL.nil ?_
    refine WC.ret ?_
    replace hK:=hK.mono e7
    replace he:=((((((((he.then e1).then e2).then (Ext.drew _)).then (Ext.drew _)).then e3).then e4).then e5).then e6).then e7
    exact finC rfl hb1 rfl ⟨⟨_,rfl,rfl,rfl,rep0⟩,Jc hK (by simp[qt];omega),he.weaken fun k h1 h2=>⟨h1,h2⟩⟩
  · skip
    have z0:=p4 (.inr (by omega))
    have z1:=p2 (by omega)
    have z3:=p5 (by omega)
    subst z0 z1 z3
    injection qb0 with qb1 _
    subst qb1
    refine doesR Tryz.func22 rfl rfl rfl ?_
    have he:Evo (fun k=>k<w.heap.size∧k≠jb) w w:=Evo.refl w
    refine WC.seq<|WC.region ?_
    have hs1:=he.size
    refine WL.l rfl (l_alloc zt_25 rfl) fun _ w1 hh=>?_
    obtain⟨rfl,hb1,e1⟩:=hh
    have nx1:=hb1.lt
    have ns1:w.heap.size≤w1.heap.size:=e1.size
    refine WL.nil ?_
    refine WC.seq<|WC.region ?_
    refine WL.q rfl (r_move rfl) ?_
    replace hK:=hK.mono e1
    refine WL.l rfl (l_do body_23 rfl (blank_ok hK (by omega) (by rw[hd0];exact NB.c qhd.1))) fun v2 w2 hh=>?_
    obtain⟨rfl,e2⟩:=hh
    have ns2:w1.heap.size≤w2.heap.size:=e2.size
    refine WL.nil ?_
    replace hK:=hK.mono e2
    replace hU:=(hU.mono e1).mono e2
    replace hb1:=hb1.mono e2
    refine WC.seq<|WC.seq<|WC.regionD [(true,0),(true,1),(true,2),(true,3),(true,4),(true,5),(true,6),(true,7),(true,8),(true,9),(true,10),(true,11),(true,12),(true,13),(true,14),(true,15),(true,16),(true,17),(true,18),(true,19)] (Ext _) mixed (by kernel_rfl) (Ext.drew _) ?_
    have nd1w2:w2.drew.heap.size=w2.heap.size:=rfl
    refine WD.q rfl (fun _ hS=>r_move rfl) ?_
    refine WD.q rfl (fun _ hS=>r_nilp rfl) ?_
    refine WD.q rfl (fun _ hS=>r_fieldAddr rfl fo_61_1) ?_
    refine WD.q rfl (fun _ hS=>r_load one_3 rfl hS (hK.get rfl)) ?_
    refine WD.q rfl (fun _ hS=>r_move rfl) ?_
    refine WD.q rfl (fun _ hS=>r_nilp rfl) ?_
    refine WD.q rfl (fun _ hS=>r_fieldAddr rfl fo_61_0) ?_
    refine WD.q rfl (fun _ hS=>r_load one_9 rfl hS (hK.get rfl)) ?_
    refine WD.q rfl (fun _ hS=>r_lens str_9 rfl) ?_
    refine WD.q rfl (fun _ hS=>r_cmp (r_geq rfl rfl) (decide_eq_false (by(omega)))) ?_
    refine WD.q rfl (fun _ hS=>r_move rfl) ?_
    refine WD.qg rfl rfl rfl rfl (fun _ hS=>r_move rfl) ?_
    refine WD.qg rfl rfl rfl rfl (fun _ hS=>r_cmp (r_leq rfl rfl) (decide_eq_false (by(omega)))) ?_
    refine WD.q rfl (fun _ hS=>r_pick rfl rfl rfl) ?_
    refine WD.q rfl (fun _ hS=>r_move rfl) ?_
    refine WD.qg rfl rfl rfl rfl (fun _ hS=>r_move rfl) ?_
    refine WD.qg rfl rfl rfl rfl (fun _ hS=>r_nilp rfl) ?_
    refine WD.qg rfl rfl rfl rfl (fun _ hS=>r_fieldAddr rfl fo_61_2) ?_
    refine WD.qg rfl rfl rfl rfl (fun _ hS=>r_load one_4 rfl hS (hK.get rfl)) ?_
    refine WD.q rfl (fun _ hS=>r_pick rfl rfl rfl) ?_
    refine WD.nil ?_
    refine WC.condF rfl ?_
    refine WC.skip ?_
    replace hK:=hK.mono (Ext.drew _)
    replace hU:=hU.mono (Ext.drew _)
    replace hb1:=hb1.mono (Ext.drew _)
    refine WC.seq<|WC.seq<|WC.regionD [(true,0),(true,1),(true,2),(true,3),(true,4),(true,5),(true,6),(true,7),(true,8),(true,9)] (Ext _) mixed (by kernel_rfl) (Ext.drew _) ?_
    have nd2w2:w2.drew.drew.heap.size=w2.heap.size:=rfl
    have nd1w2:w2.drew.heap.size=w2.heap.size:=rfl
    refine WD.q rfl (fun _ hS=>r_move rfl) ?_
    refine WD.q rfl (fun _ hS=>r_nilp rfl) ?_
    refine WD.q rfl (fun _ hS=>r_fieldAddr rfl fo_61_0) ?_
    refine WD.q rfl (fun _ hS=>r_load one_9 rfl hS (hK.get rfl)) ?_
    refine WD.q rfl (fun _ hS=>r_move rfl) ?_
    refine WD.q rfl (fun _ hS=>r_nilp rfl) ?_
    refine WD.q rfl (fun _ hS=>r_fieldAddr rfl fo_61_1) ?_
    refine WD.q rfl (fun _ hS=>r_load one_3 rfl hS (hK.get rfl)) ?_
    refine WD.q rfl (fun _ hS=>r_idxs str_9 rfl rfl rfl (by assumption)) ?_
    refine WD.q rfl (fun _ hS=>r_assign rfl) ?_
    refine WD.nil ?_
    refine WC.block ?_
    refine WC.seq<|WC.region ?_
    refine WL.q rfl (r_move rfl) ?_
    replace hK:=hK.mono (Ext.drew _)
    refine WL.l rfl (l_do body_30 rfl (wordF_ok (c:=110) (t:=[117,108,108]) hK (by omega) hd0 (by decide) hs (by decide))) fun v3 w3 hh=>?_
    obtain⟨rfl,e3⟩:=hh
    have ns3:w2.heap.size≤w3.heap.size:=e3.size
    refine WL.q rfl (r_assign rfl) ?_
    refine WL.nil ?_
    refine WC.condF rfl ?_
    refine WC.seq<|WC.region ?_
    refine WL.q rfl (r_move rfl) ?_
    replace hK:=hK.mono e3
    refine WL.l rfl (l_do body_30 rfl (wordF_ok (c:=116) (t:=[114,117,101]) hK (by omega) hd0 (by decide) hs (by decide))) fun v4 w4 hh=>?_
    obtain⟨rfl,e4⟩:=hh
    have ns4:w3.heap.size≤w4.heap.size:=e4.size
    refine WL.q rfl (r_assign rfl) ?_
    refine WL.nil ?_
    refine WC.condF rfl ?_
    refine WC.seq<|WC.region ?_
    refine WL.q rfl (r_move rfl) ?_
    replace hK:=hK.mono e4
    refine WL.l rfl (l_do body_30 rfl (wordF_ok (c:=102) (t:=[97,108,115,101]) hK (by omega) hd0 (by decide) hs (by decide))) fun v5 w5 hh=>?_
    obtain⟨rfl,e5⟩:=hh
    have ns5:w4.heap.size≤w5.heap.size:=e5.size
    refine WL.q rfl (r_assign rfl) ?_
    refine WL.nil ?_
    refine WC.condF rfl ?_
    refine WC.seq<|WC.region ?_
    refine WL.q rfl (r_move rfl) ?_
    refine WL.q rfl (r_cmp (r_eql rfl rfl) (beqT (by(rfl)))) ?_
    refine WL.q rfl (r_assign rfl) ?_
    refine WL.nil ?_
    refine WC.condT rfl ?_
    refine WC.seq<|WC.region ?_
    refine WL.q rfl (r_move rfl) ?_
    replace hK:=hK.mono e5
    replace hU:=(((hU.mono (Ext.drew _)).mono e3).mono e4).mono e5
    refine WL.l rfl (l_do body_31 rfl (text_ok (r:=r) hK (b64_qt t) (by rw[hd];simp[qt]) (b64_valid t) hU hj hs (by rw[b64_len];omega))) fun v6 w6 hh=>?_
    obtain⟨rfl,hK,e6⟩:=hh
    have ns6:w5.heap.size≤w6.heap.size:=e6.size
    refine WL.q rfl (r_bld (cs:=[_,_,_,_,_]) bld_25 rfl rfl) ?_
    replace hb1:=((((hb1.mono (Ext.drew _)).mono e3).mono e4).mono e5).mono e6
    refine WL.l0 (l_storeW sz_25 rfl rfl (by first|rfl|assumption|(simp[*];done)|simp[Value.oneCell', *]) (by first|rfl|simp[*]) hb1 (by first|rfl|simp[*])) fun _ w7 hh=>?_
    obtain⟨hb1,e7,hz7⟩:=hh
    have ns7:w6.heap.size≤w7.heap.size:=e7.size
    refine WL.nil ?_
    refine WC.ret ?_
    have qe:nrm (asJ (.mk 7 0 t 0 []))= .mk 6 0 (b64 t) 0 []:=by rw[asJ,if_pos rfl];rfl
    rw[qe]
    replace hK:=hK.mono e7
    replace he:=((((((((he.then e1).then e2).then (Ext.drew _)).then (Ext.drew _)).then e3).then e4).then e5).then e6).then e7
    exact finC rfl hb1 rfl ⟨⟨_,rfl,rfl,rfl,rep0⟩,Jc hK (by simp[qt];omega),he.weaken fun k h1 h2=>⟨h1,h2⟩⟩
  · skip
    have z0:=p4 (.inr (by omega))
    have z2:=p3 (by omega)
    have z3:=p5 (by omega)
    subst z0 z2 z3
    injection qb0 with qb1 _
    subst qb1
    refine doesR Tryz.func22 rfl rfl rfl ?_
    have he:Evo (fun k=>k<w.heap.size∧k≠jb) w w:=Evo.refl w
    refine WC.seq<|WC.region ?_
    have hs1:=he.size
    refine WL.l rfl (l_alloc zt_25 rfl) fun _ w1 hh=>?_
    obtain⟨rfl,hb1,e1⟩:=hh
    have nx1:=hb1.lt
    have ns1:w.heap.size≤w1.heap.size:=e1.size
    refine WL.nil ?_
    refine WC.seq<|WC.region ?_
    refine WL.q rfl (r_move rfl) ?_
    replace hK:=hK.mono e1
    refine WL.l rfl (l_do body_23 rfl (blank_ok hK (by omega) (by rw[hd0];exact NB.c qhd.1))) fun v2 w2 hh=>?_
    obtain⟨rfl,e2⟩:=hh
    have ns2:w1.heap.size≤w2.heap.size:=e2.size
    refine WL.nil ?_
    replace hK:=hK.mono e2
    replace hU:=(hU.mono e1).mono e2
    replace hb1:=hb1.mono e2
    refine WC.seq<|WC.seq<|WC.regionD [(true,0),(true,1),(true,2),(true,3),(true,4),(true,5),(true,6),(true,7),(true,8),(true,9),(true,10),(true,11),(true,12),(true,13),(true,14),(true,15),(true,16),(true,17),(true,18),(true,19)] (Ext _) mixed (by kernel_rfl) (Ext.drew _) ?_
    have nd1w2:w2.drew.heap.size=w2.heap.size:=rfl
    refine WD.q rfl (fun _ hS=>r_move rfl) ?_
    refine WD.q rfl (fun _ hS=>r_nilp rfl) ?_
    refine WD.q rfl (fun _ hS=>r_fieldAddr rfl fo_61_1) ?_
    refine WD.q rfl (fun _ hS=>r_load one_3 rfl hS (hK.get rfl)) ?_
    refine WD.q rfl (fun _ hS=>r_move rfl) ?_
    refine WD.q rfl (fun _ hS=>r_nilp rfl) ?_
    refine WD.q rfl (fun _ hS=>r_fieldAddr rfl fo_61_0) ?_
    refine WD.q rfl (fun _ hS=>r_load one_9 rfl hS (hK.get rfl)) ?_
    refine WD.q rfl (fun _ hS=>r_lens str_9 rfl) ?_
    refine WD.q rfl (fun _ hS=>r_cmp (r_geq rfl rfl) (decide_eq_false (by(omega)))) ?_
    refine WD.q rfl (fun _ hS=>r_move rfl) ?_
    refine WD.qg rfl rfl rfl rfl (fun _ hS=>r_move rfl) ?_
    refine WD.qg rfl rfl rfl rfl (fun _ hS=>r_cmp (r_leq rfl rfl) (decide_eq_false (by(omega)))) ?_
    refine WD.q rfl (fun _ hS=>r_pick rfl rfl rfl) ?_
    refine WD.q rfl (fun _ hS=>r_move rfl) ?_
    refine WD.qg rfl rfl rfl rfl (fun _ hS=>r_move rfl) ?_
    refine WD.qg rfl rfl rfl rfl (fun _ hS=>r_nilp rfl) ?_
    refine WD.qg rfl rfl rfl rfl (fun _ hS=>r_fieldAddr rfl fo_61_2) ?_
    refine WD.qg rfl rfl rfl rfl (fun _ hS=>r_load one_4 rfl hS (hK.get rfl)) ?_
    refine WD.q rfl (fun _ hS=>r_pick rfl rfl rfl) ?_
    refine WD.nil ?_
    refine WC.condF rfl ?_
    refine WC.skip ?_
    replace hK:=hK.mono (Ext.drew _)
    replace hU:=hU.mono (Ext.drew _)
    replace hb1:=hb1.mono (Ext.drew _)
    refine WC.seq<|WC.seq<|WC.regionD [(true,0),(true,1),(true,2),(true,3),(true,4),(true,5),(true,6),(true,7),(true,8),(true,9)] (Ext _) mixed (by kernel_rfl) (Ext.drew _) ?_
    have nd2w2:w2.drew.drew.heap.size=w2.heap.size:=rfl
    have nd1w2:w2.drew.heap.size=w2.heap.size:=rfl
    refine WD.q rfl (fun _ hS=>r_move rfl) ?_
    refine WD.q rfl (fun _ hS=>r_nilp rfl) ?_
    refine WD.q rfl (fun _ hS=>r_fieldAddr rfl fo_61_0) ?_
    refine WD.q rfl (fun _ hS=>r_load one_9 rfl hS (hK.get rfl)) ?_
    refine WD.q rfl (fun _ hS=>r_move rfl) ?_
    refine WD.q rfl (fun _ hS=>r_nilp rfl) ?_
    refine WD.q rfl (fun _ hS=>r_fieldAddr rfl fo_61_1) ?_
    refine WD.q rfl (fun _ hS=>r_load one_3 rfl hS (hK.get rfl)) ?_
    refine WD.q rfl (fun _ hS=>r_idxs str_9 rfl rfl rfl (by assumption)) ?_
    refine WD.q rfl (fun _ hS=>r_assign rfl) ?_
    refine WD.nil ?_
    refine WC.block ?_
    refine WC.seq<|WC.region ?_
    refine WL.q rfl (r_move rfl) ?_
    replace hK:=hK.mono (Ext.drew _)
    refine WL.l rfl (l_do body_30 rfl (wordF_ok (c:=110) (t:=[117,108,108]) hK (by omega) hd0 (by decide) hs (by decide))) fun v3 w3 hh=>?_
    obtain⟨rfl,e3⟩:=hh
    have ns3:w2.heap.size≤w3.heap.size:=e3.size
    refine WL.q rfl (r_assign rfl) ?_
    refine WL.nil ?_
    refine WC.condF rfl ?_
    refine WC.seq<|WC.region ?_
    refine WL.q rfl (r_move rfl) ?_
    replace hK:=hK.mono e3
    refine WL.l rfl (l_do body_30 rfl (wordF_ok (c:=116) (t:=[114,117,101]) hK (by omega) hd0 (by decide) hs (by decide))) fun v4 w4 hh=>?_
    obtain⟨rfl,e4⟩:=hh
    have ns4:w3.heap.size≤w4.heap.size:=e4.size
    refine WL.q rfl (r_assign rfl) ?_
    refine WL.nil ?_
    refine WC.condF rfl ?_
    refine WC.seq<|WC.region ?_
    refine WL.q rfl (r_move rfl) ?_
    replace hK:=hK.mono e4
    refine WL.l rfl (l_do body_30 rfl (wordF_ok (c:=102) (t:=[97,108,115,101]) hK (by omega) hd0 (by decide) hs (by decide))) fun v5 w5 hh=>?_
    obtain⟨rfl,e5⟩:=hh
    have ns5:w4.heap.size≤w5.heap.size:=e5.size
    refine WL.q rfl (r_assign rfl) ?_
    refine WL.nil ?_
    refine WC.condF rfl ?_
    refine WC.seq<|WC.region ?_
    refine WL.q rfl (r_move rfl) ?_
    refine WL.q rfl (r_cmp (r_eql rfl rfl) (beqF (by(decide)))) ?_
    refine WL.q rfl (r_assign rfl) ?_
    refine WL.nil ?_
    refine WC.condF rfl ?_
    refine WC.seq<|WC.region ?_
    refine WL.q rfl (r_move rfl) ?_
    refine WL.q rfl (r_cmp (r_eql rfl rfl) (beqT (by(rfl)))) ?_
    refine WL.q rfl (r_assign rfl) ?_
    refine WL.nil ?_
    refine WC.condT rfl ?_
    refine WC.seq<|WC.region ?_
    refine WL.q rfl (r_move rfl) ?_
    refine WL.q rfl (r_move rfl) ?_
    replace hK:=hK.mono e5
    replace hU:=(((hU.mono (Ext.drew _)).mono e3).mono e4).mono e5
    refine WL.l rfl (l_do body_32 rfl (list_A (r:=r) hks hP pL (hJ.2.2.2.2.1 (by omega)) hNl (by omega) hK (by rw[hd];simp) hL hv p10 hU hj hs)) fun v6 w6 hh=>?_
    obtain⟨⟨ca,rfl,lca,oca,hR⟩,hK,e6⟩:=hh
    have ns6:w5.heap.size≤w6.heap.size:=e6.size
    replace hb1:=((((hb1.mono (Ext.drew _)).mono e3).mono e4).mono e5).mono e6
    refine WL.l0 (l_storeW sz_25 rfl rfl (by first|rfl|assumption|(simp[*];done)|simp[Value.oneCell', *]) (by first|rfl|simp[*]) hb1 (by first|rfl|simp[*])) fun _ w7 hh=>?_
    obtain⟨hb1,e7,hz7⟩:=hh
    have ns7:w6.heap.size≤w7.heap.size:=e7.size
    refine WL.nil ?_
    refine WC.ret ?_
    have qe:nrm (asJ (.mk 8 0 [] 0 ks))= .mk 8 0 [] 0 (ks.map nj):=by rw[asJ,if_neg (by decide),if_pos (by decide),nrm,map_nj];rfl
    rw[qe]
    replace hK:=hK.mono e7
    replace hR:=hR.mono e7
    replace he:=((((((((he.then e1).then e2).then (Ext.drew _)).then (Ext.drew _)).then e3).then e4).then e5).then e6).then e7
    exact finC rfl hb1 (by rw[lca];rfl) ⟨⟨_,rfl,lca,oca,hR.weaken fun b h=>by show _≤b;omega⟩,Jc hK (by simp;omega),he.weaken fun k h1 h2=>⟨h1,h2⟩⟩
  · skip
    have z0:=p4 (.inr (by omega))
    have z2:=p3 (by omega)
    have z3:=p5 (by omega)
    subst z0 z2 z3
    injection qb0 with qb1 _
    subst qb1
    refine doesR Tryz.func22 rfl rfl rfl ?_
    have he:Evo (fun k=>k<w.heap.size∧k≠jb) w w:=Evo.refl w
    refine WC.seq<|WC.region ?_
    have hs1:=he.size
    refine WL.l rfl (l_alloc zt_25 rfl) fun _ w1 hh=>?_
    obtain⟨rfl,hb1,e1⟩:=hh
    have nx1:=hb1.lt
    have ns1:w.heap.size≤w1.heap.size:=e1.size
    refine WL.nil ?_
    refine WC.seq<|WC.region ?_
    refine WL.q rfl (r_move rfl) ?_
    replace hK:=hK.mono e1
    refine WL.l rfl (l_do body_23 rfl (blank_ok hK (by omega) (by rw[hd0];exact NB.c qhd.1))) fun v2 w2 hh=>?_
    obtain⟨rfl,e2⟩:=hh
    have ns2:w1.heap.size≤w2.heap.size:=e2.size
    refine WL.nil ?_
    replace hK:=hK.mono e2
    replace hU:=(hU.mono e1).mono e2
    replace hb1:=hb1.mono e2
    refine WC.seq<|WC.seq<|WC.regionD [(true,0),(true,1),(true,2),(true,3),(true,4),(true,5),(true,6),(true,7),(true,8),(true,9),(true,10),(true,11),(true,12),(true,13),(true,14),(true,15),(true,16),(true,17),(true,18),(true,19)] (Ext _) mixed (by kernel_rfl) (Ext.drew _) ?_
    have nd1w2:w2.drew.heap.size=w2.heap.size:=rfl
    refine WD.q rfl (fun _ hS=>r_move rfl) ?_
    refine WD.q rfl (fun _ hS=>r_nilp rfl) ?_
    refine WD.q rfl (fun _ hS=>r_fieldAddr rfl fo_61_1) ?_
    refine WD.q rfl (fun _ hS=>r_load one_3 rfl hS (hK.get rfl)) ?_
    refine WD.q rfl (fun _ hS=>r_move rfl) ?_
    refine WD.q rfl (fun _ hS=>r_nilp rfl) ?_
    refine WD.q rfl (fun _ hS=>r_fieldAddr rfl fo_61_0) ?_
    refine WD.q rfl (fun _ hS=>r_load one_9 rfl hS (hK.get rfl)) ?_
    refine WD.q rfl (fun _ hS=>r_lens str_9 rfl) ?_
    refine WD.q rfl (fun _ hS=>r_cmp (r_geq rfl rfl) (decide_eq_false (by(omega)))) ?_
    refine WD.q rfl (fun _ hS=>r_move rfl) ?_
    refine WD.qg rfl rfl rfl rfl (fun _ hS=>r_move rfl) ?_
    refine WD.qg rfl rfl rfl rfl (fun _ hS=>r_cmp (r_leq rfl rfl) (decide_eq_false (by(omega)))) ?_
    refine WD.q rfl (fun _ hS=>r_pick rfl rfl rfl) ?_
    refine WD.q rfl (fun _ hS=>r_move rfl) ?_
    refine WD.qg rfl rfl rfl rfl (fun _ hS=>r_move rfl) ?_
    refine WD.qg rfl rfl rfl rfl (fun _ hS=>r_nilp rfl) ?_
    refine WD.qg rfl rfl rfl rfl (fun _ hS=>r_fieldAddr rfl fo_61_2) ?_
    refine WD.qg rfl rfl rfl rfl (fun _ hS=>r_load one_4 rfl hS (hK.get rfl)) ?_
    refine WD.q rfl (fun _ hS=>r_pick rfl rfl rfl) ?_
    refine WD.nil ?_
    refine WC.condF rfl ?_
    refine WC.skip ?_
    replace hK:=hK.mono (Ext.drew _)
    replace hU:=hU.mono (Ext.drew _)
    replace hb1:=hb1.mono (Ext.drew _)
    refine WC.seq<|WC.seq<|WC.regionD [(true,0),(true,1),(true,2),(true,3),(true,4),(true,5),(true,6),(true,7),(true,8),(true,9)] (Ext _) mixed (by kernel_rfl) (Ext.drew _) ?_
    have nd2w2:w2.drew.drew.heap.size=w2.heap.size:=rfl
    have nd1w2:w2.drew.heap.size=w2.heap.size:=rfl
    refine WD.q rfl (fun _ hS=>r_move rfl) ?_
    refine WD.q rfl (fun _ hS=>r_nilp rfl) ?_
    refine WD.q rfl (fun _ hS=>r_fieldAddr rfl fo_61_0) ?_
    refine WD.q rfl (fun _ hS=>r_load one_9 rfl hS (hK.get rfl)) ?_
    refine WD.q rfl (fun _ hS=>r_move rfl) ?_
    refine WD.q rfl (fun _ hS=>r_nilp rfl) ?_
    refine WD.q rfl (fun _ hS=>r_fieldAddr rfl fo_61_1) ?_
    refine WD.q rfl (fun _ hS=>r_load one_3 rfl hS (hK.get rfl)) ?_
    refine WD.q rfl (fun _ hS=>r_idxs str_9 rfl rfl rfl (by assumption)) ?_
    refine WD.q rfl (fun _ hS=>r_assign rfl) ?_
    refine WD.nil ?_
    refine WC.block ?_
    refine WC.seq<|WC.region ?_
    refine WL.q rfl (r_move rfl) ?_
    replace hK:=hK.mono (Ext.drew _)
    refine WL.l rfl (l_do body_30 rfl (wordF_ok (c:=110) (t:=[117,108,108]) hK (by omega) hd0 (by decide) hs (by decide))) fun v3 w3 hh=>?_
    obtain⟨rfl,e3⟩:=hh
    have ns3:w2.heap.size≤w3.heap.size:=e3.size
    refine WL.q rfl (r_assign rfl) ?_
    refine WL.nil ?_
    refine WC.condF rfl ?_
    refine WC.seq<|WC.region ?_
    refine WL.q rfl (r_move rfl) ?_
    replace hK:=hK.mono e3
    refine WL.l rfl (l_do body_30 rfl (wordF_ok (c:=116) (t:=[114,117,101]) hK (by omega) hd0 (by decide) hs (by decide))) fun v4 w4 hh=>?_
    obtain⟨rfl,e4⟩:=hh
    have ns4:w3.heap.size≤w4.heap.size:=e4.size
    refine WL.q rfl (r_assign rfl) ?_
    refine WL.nil ?_
    refine WC.condF rfl ?_
    refine WC.seq<|WC.region ?_
    refine WL.q rfl (r_move rfl) ?_
    replace hK:=hK.mono e4
    refine WL.l rfl (l_do body_30 rfl (wordF_ok (c:=102) (t:=[97,108,115,101]) hK (by omega) hd0 (by decide) hs (by decide))) fun v5 w5 hh=>?_
    obtain⟨rfl,e5⟩:=hh
    have ns5:w4.heap.size≤w5.heap.size:=e5.size
    refine WL.q rfl (r_assign rfl) ?_
    refine WL.nil ?_
    refine WC.condF rfl ?_
    refine WC.seq<|WC.region ?_
    refine WL.q rfl (r_move rfl) ?_
    refine WL.q rfl (r_cmp (r_eql rfl rfl) (beqF (by(decide)))) ?_
    refine WL.q rfl (r_assign rfl) ?_
    refine WL.nil ?_
    refine WC.condF rfl ?_
    refine WC.seq<|WC.region ?_
    refine WL.q rfl (r_move rfl) ?_
    refine WL.q rfl (r_cmp (r_eql rfl rfl) (beqF (by(decide)))) ?_
    refine WL.q rfl (r_assign rfl) ?_
    refine WL.nil ?_
    refine WC.condF rfl ?_
    refine WC.seq<|WC.region ?_
    refine WL.q rfl (r_move rfl) ?_
    refine WL.q rfl (r_cmp (r_eql rfl rfl) (beqT (by(rfl)))) ?_
    refine WL.q rfl (r_assign rfl) ?_
    refine WL.nil ?_
    refine WC.condT rfl ?_
    refine WC.seq<|WC.region ?_
    refine WL.q rfl (r_move rfl) ?_
    refine WL.q rfl (r_move rfl) ?_
    replace hK:=hK.mono e5
    replace hU:=(((hU.mono (Ext.drew _)).mono e3).mono e4).mono e5
    refine WL.l rfl (l_do body_32 rfl (list_M (r:=r) hks hP pL (hJ.2.2.2.2.1 (by omega)) hNl (by omega) (p7 rfl) (hJ.2.2.2.2.2 rfl) hK (by rw[hd];simp) hL hv p10 hU hj hs)) fun v6 w6 hh=>?_
    obtain⟨⟨ca,rfl,lca,oca,hR⟩,hK,e6⟩:=hh
    have ns6:w5.heap.size≤w6.heap.size:=e6.size
    replace hb1:=((((hb1.mono (Ext.drew _)).mono e3).mono e4).mono e5).mono e6
    refine WL.l0 (l_storeW sz_25 rfl rfl (by first|rfl|assumption|(simp[*];done)|simp[Value.oneCell', *]) (by first|rfl|simp[*]) hb1 (by first|rfl|simp[*])) fun _ w7 hh=>?_
    obtain⟨hb1,e7,hz7⟩:=hh
    have ns7:w6.heap.size≤w7.heap.size:=e7.size
    refine WL.nil ?_
    refine WC.ret ?_
    have qe:nrm (asJ (.mk 9 0 [] 0 ks))= .mk 9 0 [] 0 (ks.map nj):=by rw[asJ,if_neg (by decide),if_pos (by decide),nrm,map_nj];rfl
    rw[qe]
    replace hK:=hK.mono e7
    replace hR:=hR.mono e7
    replace he:=((((((((he.then e1).then e2).then (Ext.drew _)).then (Ext.drew _)).then e3).then e4).then e5).then e6).then e7
    exact finC rfl hb1 (by rw[lca];rfl) ⟨⟨_,rfl,lca,oca,hR.weaken fun b h=>by show _≤b;omega⟩,Jc hK (by simp;omega),he.weaken fun k h1 h2=>⟨h1,h2⟩⟩
theorem vals:∀x:Pk,VS x:=Pk.ind fun _ _ _ _ _ h=>val_one h
end Go.Proofs.LL
