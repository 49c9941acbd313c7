/- Contracts of functions and own laws. Conditions: those that each theorem states. -/
import Derived.Test.YtbkhpjeaacoobaaGreatDoorA37
set_option linter.all false
set_option maxRecDepth 20000
namespace Go.Proofs.LL
open Go Go.Proofs Go.RowKit
theorem body_31:bodyB Tryz.prog 31=true:=by kernel_rfl
theorem key_jb{x:Pk}{o:List UInt8}{L:Int}(h:JB x o)(hk:x.kind=6)(hJ:JOK x)(hF:Fits L x):∃t q,Qt t q∧o=34::(q++[34])∧Lib.validD t=true∧t.length≤131072∧nj x= .mk 6 0 t 0 []:=by
  obtain⟨k,n,t,e,ks⟩:=x
  simp only[Pk.kind]at hk
  subst hk
  rw[JB]at h
  rw[Fits]at hF
  rw[JOK]at hJ
  obtain⟨p0,p1,p2,p3,p4,p5,p6,p7,p8,p9,p10,pL⟩:=hF
  rcases h with⟨h,_⟩|⟨h,_⟩|⟨h,_⟩|⟨h,_⟩|⟨h,_⟩|⟨_,q,h1,h2⟩|⟨h,_⟩|⟨h,_⟩|⟨h,_⟩
  all_goals first|(exfalso;omega)|skip
  refine⟨t,q,h1,h2,hJ.2.2.2.1 rfl,p9,?_⟩
  have e1:=p2 (by omega)
  have e2:=p4 (.inr (by omega))
  have e3:=p5 (by omega)
  subst e1 e2 e3
  rfl
theorem list_M{ks:List Pk}{ps:List (List UInt8)}{L lv:Int}{jb p:Nat}{s r:List UInt8}{w:World}(hks:∀x∈ks,VS x)(hP:JBL ks ps)(hF:FitsL (L-1) ks)(hJ:JOKL ks)(hN:N64L ks)(hlen:ks.length≤2000)(h2:ks.length%2=0)(hke:∀i (h:i<ks.length),i%2=0→ks[i].kind=6)(hK:Jt w jb s p)(hd:s.drop p=123::((cM ps).tail++125::r))(hL:L<lv)(hv:lv≤1000)(h0:0<L)(hU:UT w)(hj:1<jb)(hs:s.length≤1000000000000):
    Does Tryz.prog 32 [.pointer (some ⟨jb,0,none⟩),.int .i64 9,.int .u8 125,.int .i64 lv] w fun u w'=>VR w jb s (p+1+(cM ps).tail.length+1) (.mk 9 0 [] 0 (ks.map nj)) u w':=by
  have hsz:({data:=s.toArray}:ByteArray).size=s.length:=rfl
  obtain⟨qp0,_,qd1⟩:=drop_c hd
  have hlt:=hK.lt
  have qpl:=hP.len
  have qut:=hU.lt
  unfold VR
  unfold Jt at hK⊢
  rcases Nat.eq_zero_or_pos ks.length with qz|qz
  · have qk:ks=[]:=List.eq_nil_of_length_eq_zero qz
    have qps:ps=[]:=List.eq_nil_of_length_eq_zero (by omega)
    subst qk qps
    refine doesR Tryz.func32 rfl rfl rfl ?_
    have he:Evo (fun k=>k<w.heap.size∧k≠jb) w w:=Evo.refl w
    refine WC.seq<|WC.region ?_
    have hs1:=he.size
    refine WL.l rfl (l_alloc zt_25 rfl) fun _ w1 hh=>?_
    obtain⟨rfl,hb1,e1⟩:=hh
    have nx1:=hb1.lt
    have ns1:w.heap.size≤w1.heap.size:=e1.size
    refine WL.nil ?_
    refine WC.seq<|WC.region ?_
    refine WL.q rfl (r_move rfl) ?_
    refine WL.q rfl (r_bld (cs:=[_,_,_,_,_]) bld_25 rfl rfl) ?_
    replace he:=he.then e1
    have hs2:=he.size
    have hx2b1:=hb1.lt
    refine WL.l rfl (l_alloc zt_25 rfl) fun _ w2 hh=>?_
    obtain⟨rfl,hb2,e2⟩:=hh
    have nx2:=hb2.lt
    have ns2:w1.heap.size≤w2.heap.size:=e2.size
    refine WL.l0 (l_storeW sz_25 rfl rfl (by first|rfl|assumption|(simp[*];done)|simp[Value.oneCell', *]) (by first|rfl|simp[*]) hb2 (by first|rfl|simp[*])) fun _ w3 hh=>?_
    obtain⟨hb2,e3,hz3⟩:=hh
    have ns3:w2.heap.size≤w3.heap.size:=e3.size
    refine WL.nil ?_
    refine WC.seq<|WC.region ?_
    refine WL.q rfl (r_move rfl) ?_
    refine WL.q rfl (r_nilp rfl) ?_
    refine WL.q rfl (r_fieldAddr rfl fo_61_1) ?_
    replace hK:=(hK.mono e1).mono (e2.then e3)
    refine WL.q rfl (r_load one_3 rfl (Ext.refl _) (hK.get rfl)) ?_
    refine WL.q rfl (r_addi rfl rfl rfl (by omega) (by omega)) ?_
    refine WL.q rfl (r_nilp rfl) ?_
    refine WL.q rfl (r_fieldAddr rfl fo_61_1) ?_
    refine WL.l0 (l_store sz_3 rfl rfl (by first|rfl|assumption|exact Own.one (by assumption)) hK rfl) fun _ w4 hh=>?_
    obtain⟨hK,e4,hz4⟩:=hh
    have ns4:w3.heap.size≤w4.heap.size:=e4.size
    refine WL.nil ?_
    refine WC.seq<|WC.seq<|WC.region ?_
    refine WL.q rfl (r_move rfl) ?_
    refine WL.q rfl (r_move rfl) ?_
    refine WL.l rfl (l_do body_39 rfl (eatT_ok (b:=125) (p:=p+1) (r:=r) (Jc hK (by omega)) qd1 (by decide) hs)) fun v5 w5 hh=>?_
    obtain⟨rfl,hK,e5⟩:=hh
    have ns5:w4.heap.size≤w5.heap.size:=e5.size
    refine WL.nil ?_
    refine WC.condT rfl ?_
    refine WC.seq<|WC.region ?_
    replace hb2:=(hb2.mono e4).mono e5
    refine WL.q rfl (r_loadAgg agg_25 rfl (Ext.refl _) hb2.at (hn:=by first|rfl|assumption)) ?_
    replace hb1:=((hb1.mono (e2.then e3)).mono e4).mono e5
    refine WL.l0 (l_storeW sz_25 rfl rfl (by first|rfl|assumption|(simp[*];done)|simp[Value.oneCell', *]) (by first|rfl|simp[*]) hb1 (by first|rfl|simp[*])) fun _ w6 hh=>?_
    obtain⟨hb1,e6,hz6⟩:=hh
    have ns6:w5.heap.size≤w6.heap.size:=e6.size
    refine WL.nil ?_
    refine WC.ret ?_
    replace hK:=hK.mono e6
    replace he:=(((he.then (e2.then e3)).then e4).then e5).then e6
    exact finC rfl hb1 rfl ⟨⟨_,rfl,rfl,rfl,rep0⟩,Jc hK (by simp[cM]),he.weaken fun k h1 h2=>⟨h1,h2⟩⟩
  · have qdec:∀i,2 * i<ks.length→∃(hi:2 * i<ks.length) (hi1:2 * i+1<ks.length) (hp:2 * i<ps.length) (hp1:2 * i+1<ps.length),JB ks[2 * i] ps[2 * i]∧JB ks[2 * i+1] ps[2 * i+1]∧(cM (ps.drop (2 * i))).tail=ps[2 * i]++58::(ps[2 * i+1]++cM (ps.drop (2 * (i+1)))):=fun i hi=>
      ⟨hi,by omega,by omega,by omega,hP.get hi (by omega),hP.get (by omega) (by omega),by
        rw[List.drop_eq_getElem_cons (show 2 * i<ps.length by omega),List.drop_eq_getElem_cons (show 2 * i+1<ps.length by omega)];rfl⟩
    have qh0:∃r',s.drop (p+1)=34::r':=by
      obtain⟨_,_,_,_,j1,_,j3⟩:=qdec 0 (by omega)
      obtain⟨t,q,_,e1,_⟩:=key_jb j1 (hke _ (by omega) (by omega)) (hJ.mem _ (List.getElem_mem _)) (hF.mem _ (List.getElem_mem _))
      have j4:(cM ps).tail=ps[2 * 0]++(58:UInt8)::(ps[2 * 0+1]++cM (ps.drop (2 * (0+1)))):=j3
      rw[qd1,j4,e1]
      exact⟨_,rfl⟩
    obtain⟨r0,qc0⟩:=qh0
    refine doesR Tryz.func32 rfl rfl rfl ?_
    have he:Evo (fun k=>k<w.heap.size∧k≠jb) w w:=Evo.refl w
    refine WC.seq<|WC.region ?_
    have hs1:=he.size
    refine WL.l rfl (l_alloc zt_25 rfl) fun _ w1 hh=>?_
    obtain⟨rfl,hb1,e1⟩:=hh
    have nx1:=hb1.lt
    have ns1:w.heap.size≤w1.heap.size:=e1.size
    refine WL.nil ?_
    refine WC.seq<|WC.region ?_
    refine WL.q rfl (r_move rfl) ?_
    refine WL.q rfl (r_bld (cs:=[_,_,_,_,_]) bld_25 rfl rfl) ?_
    replace he:=he.then e1
    have hs2:=he.size
    have hx2b1:=hb1.lt
    refine WL.l rfl (l_alloc zt_25 rfl) fun _ w2 hh=>?_
    obtain⟨rfl,hb2,e2⟩:=hh
    have nx2:=hb2.lt
    have ns2:w1.heap.size≤w2.heap.size:=e2.size
    refine WL.l0 (l_storeW sz_25 rfl rfl (by first|rfl|assumption|(simp[*];done)|simp[Value.oneCell', *]) (by first|rfl|simp[*]) hb2 (by first|rfl|simp[*])) fun _ w3 hh=>?_
    obtain⟨hb2,e3,hz3⟩:=hh
    have ns3:w2.heap.size≤w3.heap.size:=e3.size
    refine WL.nil ?_
    refine WC.seq<|WC.region ?_
    refine WL.q rfl (r_move rfl) ?_
    refine WL.q rfl (r_nilp rfl) ?_
    refine WL.q rfl (r_fieldAddr rfl fo_61_1) ?_
    replace hK:=(hK.mono e1).mono (e2.then e3)
    refine WL.q rfl (r_load one_3 rfl (Ext.refl _) (hK.get rfl)) ?_
    refine WL.q rfl (r_addi rfl rfl rfl (by omega) (by omega)) ?_
    refine WL.q rfl (r_nilp rfl) ?_
    refine WL.q rfl (r_fieldAddr rfl fo_61_1) ?_
    refine WL.l0 (l_store sz_3 rfl rfl (by first|rfl|assumption|exact Own.one (by assumption)) hK rfl) fun _ w4 hh=>?_
    obtain⟨hK,e4,hz4⟩:=hh
    have ns4:w3.heap.size≤w4.heap.size:=e4.size
    refine WL.nil ?_
    refine WC.seq<|WC.seq<|WC.region ?_
    refine WL.q rfl (r_move rfl) ?_
    refine WL.q rfl (r_move rfl) ?_
    refine WL.l rfl (l_do body_39 rfl (eatF_ok (b:=125) (p:=p+1) (Jc hK (by omega)) qc0 (by decide) (by decide))) fun v5 w5 hh=>?_
    obtain⟨rfl,e5⟩:=hh
    have ns5:w4.heap.size≤w5.heap.size:=e5.size
    refine WL.nil ?_
    refine WC.condF rfl ?_
    refine WC.skip ?_
    refine WC.seq<|WC.block ?_
    obtain⟨N1,eN1⟩:∃M,M=w5.heap.size:=⟨_,rfl⟩
    replace hK:=hK.mono e5
    replace hU:=(((hU.mono e1).mono (e2.then e3)).mono e4).mono e5
    replace hb1:=((hb1.mono (e2.then e3)).mono e4).mono e5
    replace hb2:=(hb2.mono e4).mono e5
    replace he:=((he.then (e2.then e3)).then e4).then e5
    refine WC.loop2 (ι:=Nat) [(0,_),(1,_),(2,_),(3,_),(8,_),(9,_)] (fun i=>[]) (fun i wi=>(∃sv cs P,Blk wi w1.heap.size [.int .i64 9,.int .u64 0,.string ⟨#[]⟩,.int .i64 0,sv]∧Own N1 25 5 wi sv (2 * i) cs∧RepPL (fun b=>N1≤b∧sv.ownBlock≠some b) wi ((ks.take (2 * i)).map nj) cs∧Blk wi jb [str s,.int .i64 ((P:Nat):Int),.bool false]∧s.drop P=(cM (ps.drop (2 * i))).tail++125::r∧P+((cM (ps.drop (2 * i))).tail).length=p+1+((cM ps).tail).length)∧2 * i<ks.length∧Evo (fun b=>b<N1∧b≠jb∧b≠w1.heap.size) w5 wi) (fun i=>ks.length-i) 0 (.cons rfl (.cons rfl (.cons rfl (.cons rfl (.cons rfl (.cons rfl .nil)))))) .nil (⟨⟨_,[],p+1,hb2,Own.nil _ _ _ _,by rw[Nat.mul_zero,List.take_zero,List.map_nil,RepPL],Jc hK (by omega),qd1,rfl⟩,by omega,Evo.refl _⟩) ?_
    intro i wi1 hh;obtain⟨hQ,qi,hE⟩:=hh
    obtain⟨sv,cs,P,hb2,hO,hV,hK,qdP,qPl⟩:=hQ
    obtain⟨_,qi1,qip,qip1,qjb,qjb1,qtl⟩:=qdec i qi
    have qmem:=List.getElem_mem qi
    have qmem1:=List.getElem_mem qi1
    obtain⟨t,q,qQ,qo,qv,qtl2,qnj⟩:=key_jb qjb (hke _ qi (by omega)) (hJ.mem _ qmem) (hF.mem _ qmem)
    have nwi:=hE.size
    have hOl:=hO.lt
    have hT:=Since.mk hE
    obtain⟨pv0,cv0,qsv0,_,_⟩:=hO.form
    subst qsv0
    rw[qtl,qo]at qdP
    rw[qtl,qo]at qPl
    simp only[List.length_append,List.length_cons,List.length_nil]at qPl
    have qdK:s.drop P=34::(q++34::(58::(ps[2 * i+1]++(cM (ps.drop (2 * (i+1)))++125::r)))):=by rw[qdP];simp
    obtain⟨qpos,hbP,_⟩:=drop_c qdK
    have qd58:s.drop (P+1+q.length+1)=58::(ps[2 * i+1]++(cM (ps.drop (2 * (i+1)))++125::r)):=by
      rw[show P+1+q.length+1=P+(1+q.length+1) by omega,← List.drop_drop,qdK,show(34::(q++34::(58::(ps[2 * i+1]++(cM (ps.drop (2 * (i+1)))++125::r)))))=(34::(q++[34]))++(58::(ps[2 * i+1]++(cM (ps.drop (2 * (i+1)))++125::r))) by simp]
      exact List.drop_left' (by simp;omega)
    obtain⟨_,_,qdV⟩:=drop_c qd58
    obtain⟨P2,qP2⟩:∃P2,P2=P+1+q.length+1+1:=⟨_,rfl⟩
    rw[← qP2]at qdV
    have qdn:s.drop (P2+ps[2 * i+1].length)=cM (ps.drop (2 * (i+1)))++125::r:=by rw[← List.drop_drop,qdV,List.drop_left]
    have hsn:(ks.take (2 * (i+1))).map nj=((ks.take (2 * i)).map nj++[.mk 6 0 t 0 []])++[nrm (asJ ks[2 * i+1])]:=by
      rw[show 2 * (i+1)=2 * i+1+1 by omega,← List.take_append_getElem qi1,← List.take_append_getElem qi,List.map_append,List.map_append,← qnj];rfl
    rcases Nat.lt_or_ge (2 * (i+1)) ks.length with qm|qm
    · obtain⟨_,_,qip2,qip3,_,_,qtl3⟩:=qdec (i+1) qm
      have qdm:s.drop (P2+ps[2 * i+1].length)=44::((cM (ps.drop (2 * (i+1)))).tail++125::r):=by
        rw[qdn,List.drop_eq_getElem_cons qip2,List.drop_eq_getElem_cons qip3];rfl
      have qnl:(cM (ps.drop (2 * (i+1)))).length=1+(cM (ps.drop (2 * (i+1)))).tail.length:=by
        rw[List.drop_eq_getElem_cons qip2,List.drop_eq_getElem_cons qip3];simp[cM];omega
      refine WC.seq<|WC.seq<|WC.region ?_
      refine WL.q rfl (r_move rfl) ?_
      refine WL.q rfl (r_nilp rfl) ?_
      refine WL.q rfl (r_fieldAddr rfl fo_61_2) ?_
      refine WL.q rfl (r_load one_4 rfl (Ext.refl _) (hK.get rfl)) ?_
      refine WL.q rfl (r_not rfl) ?_
      refine WL.nil ?_
      refine WC.condT rfl ?_
      refine WC.skip ?_
      refine WC.block ?_
      refine WC.seq<|WC.seq<|WC.region ?_
      refine WL.q rfl (r_move rfl) ?_
      refine WL.q rfl (r_eql rfl rfl) ?_ --K
      refine WL.nil ?_
      refine WC.condT rfl ?_
      refine WC.seq<|WC.region ?_
      refine WL.q rfl (r_move rfl) ?_
      refine WL.l rfl (l_do body_23 rfl (blank_ok hK (by omega) (by rw[qdK];exact NB.c (by decide)))) fun v6 w6 hh=>?_
      obtain⟨rfl,e6⟩:=hh
      have ns6:wi1.heap.size≤w6.heap.size:=e6.size
      refine WL.nil ?_
      replace hU:=(hU.mono hE).mono e6
      replace hb1:=(hb1.mono hE).mono e6
      replace hb2:=hb2.mono e6
      replace hO:=hO.mono e6
      replace hV:=hV.mono e6
      replace hK:=hK.mono e6
      replace hT:=hT.mono e6
      refine WC.seq<|WC.seq<|WC.regionD [(true,0),(true,1),(true,2),(true,3),(true,4),(true,5),(true,6),(true,7),(true,8),(true,9),(true,10),(true,11),(true,12),(true,13),(true,14),(true,15),(true,16),(true,17),(true,18),(true,19),(true,20),(true,21)] (Ext _) mixed (by kernel_rfl) (Ext.drew _) ?_
      have nd1w6:w6.drew.heap.size=w6.heap.size:=rfl
      refine WD.q rfl (fun _ hS=>r_move rfl) ?_
      refine WD.q rfl (fun _ hS=>r_nilp rfl) ?_
      refine WD.q rfl (fun _ hS=>r_fieldAddr rfl fo_61_1) ?_
      refine WD.q rfl (fun _ hS=>r_load one_3 rfl hS (hK.get rfl)) ?_
      refine WD.q rfl (fun _ hS=>r_move rfl) ?_
      refine WD.q rfl (fun _ hS=>r_nilp rfl) ?_
      refine WD.q rfl (fun _ hS=>r_fieldAddr rfl fo_61_0) ?_
      refine WD.q rfl (fun _ hS=>r_load one_9 rfl hS (hK.get rfl)) ?_
      refine WD.q rfl (fun _ hS=>r_lens str_9 rfl) ?_
      refine WD.q rfl (fun _ hS=>r_cmp (r_geq rfl rfl) (decide_eq_false (by(omega)))) ?_
      refine WD.q rfl (fun _ hS=>r_move rfl) ?_
      refine WD.qg rfl rfl rfl rfl (fun _ hS=>r_move rfl) ?_
      refine WD.qg rfl rfl rfl rfl (fun _ hS=>r_nilp rfl) ?_
      refine WD.qg rfl rfl rfl rfl (fun _ hS=>r_fieldAddr rfl fo_61_0) ?_
      refine WD.qg rfl rfl rfl rfl (fun _ hS=>r_load one_9 rfl hS (hK.get rfl)) ?_
      refine WD.qg rfl rfl rfl rfl (fun _ hS=>r_move rfl) ?_
      refine WD.qg rfl rfl rfl rfl (fun _ hS=>r_nilp rfl) ?_
      refine WD.qg rfl rfl rfl rfl (fun _ hS=>r_fieldAddr rfl fo_61_1) ?_
      refine WD.qg rfl rfl rfl rfl (fun _ hS=>r_load one_3 rfl hS (hK.get rfl)) ?_
      refine WD.qg rfl rfl rfl rfl (fun _ hS=>r_idxs str_9 rfl rfl rfl (by assumption)) ?_
      refine WD.qg rfl rfl rfl rfl (fun _ hS=>r_cmp (r_neq rfl rfl) (bneF (by(rfl)))) ?_
      refine WD.q rfl (fun _ hS=>r_pick rfl rfl rfl) ?_
      refine WD.nil ?_
      refine WC.condF rfl ?_
      refine WC.skip ?_
      replace hU:=hU.mono (Ext.drew _)
      replace hb1:=hb1.mono (Ext.drew _)
      replace hb2:=hb2.mono (Ext.drew _)
      replace hO:=hO.mono (Ext.drew _)
      replace hV:=hV.mono (Ext.drew _)
      replace hK:=hK.mono (Ext.drew _)
      replace hT:=hT.mono (Ext.drew _)
      refine WC.seq<|WC.regionDL 8 [(true,0),(true,1),(true,2),(false,3),(true,4),(false,5),(false,6),(true,7),(false,8)] (Evo (fun b=>b<N1∧b≠jb) _) mixed (by kernel_rfl) (Evo.drew _) ?_
      have nd2w6:w6.drew.drew.heap.size=w6.heap.size:=rfl
      have nd1w6:w6.drew.heap.size=w6.heap.size:=rfl
      refine WD.q rfl (fun _ hS=>r_fieldAddr rfl fo_25_4) ?_
      refine WD.q rfl (fun _ hS=>r_load one_23 rfl hS (hb2.get rfl)) ?_
      refine WD.q rfl (fun _ hS=>r_move rfl) ?_
      refine WD.l rfl rfl (l_do body_31 rfl (text_ok (hK.mono (Ext.drew _)) qQ qdK qv (hU.mono (Ext.drew _)) hj hs (by omega))) fun v7 w7 hh=>?_
      obtain⟨rfl,hK,e7⟩:=hh
      have ns7:w6.heap.size≤w7.heap.size:=e7.size
      refine⟨((Evo.drew _).then e7),?_⟩
      refine WD.q rfl (fun _ hS=>r_bld (cs:=[_,_,_,_,_]) bld_25 rfl rfl) ?_
      replace he:=((((he.then hE).then e6).then (Ext.drew _)).then (Ext.drew _)).then e7
      have hs8:=he.size
      replace hb1:=(hb1.mono (Ext.drew _)).mono e7
      have hx8b1:=hb1.lt
      replace hb2:=(hb2.mono (Ext.drew _)).mono e7
      have hx8b2:=hb2.lt
      refine WD.l rfl rfl (l_lit (vs:=[_]) slz_23 rfl (by first|rfl|(simp[Value.cells,Nat.beq_eq, *];done)) rfl rfl rfl) fun _ w8 hh=>?_
      obtain⟨rfl,hb8,e8⟩:=hh
      have ns8:w7.heap.size≤w8.heap.size:=e8.size
      refine⟨(((Evo.drew _).then e7).then e8),?_⟩
      refine WD.l rfl rfl (l_appQ (ys':=[.mk 6 0 t 0 []]) slz_23 rfl rfl (((hO.mono (Ext.drew _)).mono e7).mono e8) (((hV.mono (Ext.drew _)).mono e7).mono e8) (RepPL.one rep0) (Src.at slk_23 (flat1 hb8) rfl rfl) (by omega) (by simp only[maxLen];omega) (by omega)) fun v9 w9 hh=>?_
      obtain⟨hO,hV,e9⟩:=hh
      obtain⟨q9,c9,hq9,_,_⟩:=hO.form
      subst hq9
      have qOl2:=hO.lt
      obtain⟨V2,qV2⟩:∃V,V=Value.slice q9 (2 * i+1) c9:=⟨_,rfl⟩
      have ns9:w8.heap.size≤w9.heap.size:=e9.size
      refine⟨((((Evo.drew _).then e7).then e8).then e9),?_⟩
      refine WD.q rfl (fun _ hS=>r_fieldAddr rfl fo_25_4) ?_
      replace hb2:=(hb2.mono e8).mono e9
      refine WD.l0L rfl rfl (l_store sz_23 rfl rfl (by first|rfl|assumption|exact Own.one (by assumption)) hb2 rfl) fun _ w10 hh=>?_
      obtain⟨hb2,e10,hz10⟩:=hh
      have ns10:w9.heap.size≤w10.heap.size:=e10.size
      refine WT.nil ?_
      refine WC.seq<|WC.region ?_
      refine WL.q rfl (r_move rfl) ?_
      replace hK:=((hK.mono e8).mono e9).mono e10
      refine WL.l rfl (l_do body_39 rfl (eatT_ok (b:=58) hK qd58 (by decide) hs)) fun v11 w11 hh=>?_
      obtain⟨rfl,hK,e11⟩:=hh
      have ns11:w10.heap.size≤w11.heap.size:=e11.size
      refine WL.q rfl (r_not rfl) ?_
      refine WL.nil ?_
      refine WC.condF rfl ?_
      refine WC.skip ?_
      replace hU:=(((((hU.mono (Ext.drew _)).mono e7).mono e8).mono e9).mono e10).mono e11
      replace hb1:=(((hb1.mono e8).mono e9).mono e10).mono e11
      replace hb2:=hb2.mono e11
      replace hO:=(hO.mono e10).mono e11
      replace hV:=(hV.mono e10).mono e11
      replace hT:=(((((hT.mono (Ext.drew _)).mono e7).mono e8).mono e9).mono e10).mono e11
      refine WC.seq<|WC.regionDL 9 [(true,0),(true,1),(true,2),(true,3),(true,4),(false,5),(false,6),(false,7),(true,8),(false,9)] (Evo (fun b=>b<N1∧b≠jb) _) mixed (by kernel_rfl) (Evo.drew _) ?_
      have nd1w11:w11.drew.heap.size=w11.heap.size:=rfl
      refine WD.q rfl (fun _ hS=>r_fieldAddr rfl fo_25_4) ?_
      refine WD.q rfl (fun _ hS=>r_load one_23 rfl hS (hb2.get rfl)) ?_
      refine WD.q rfl (fun _ hS=>r_move rfl) ?_
      refine WD.q rfl (fun _ hS=>r_move rfl) ?_
      refine WD.q rfl (fun _ hS=>r_subi rfl rfl rfl (by omega) (by omega)) ?_
      refine WD.l rfl rfl (l_do body_22 rfl (hks _ qmem1 (L-1) (lv-1) ps[2 * i+1] (cM (ps.drop (2 * (i+1)))++125::r) jb P2 s _ qjb1 (hF.mem _ qmem1) (hJ.mem _ qmem1) (hN.mem _ qmem1) (Jc (hK.mono (Ext.drew _)) (by omega)) qdV (by rw[← qdn,qdm];exact ND.c (by decide)) (by omega) (by omega) (hU.mono (Ext.drew _)) hj hs)) fun v12 w12 hh=>?_
      obtain⟨⟨ca,rfl,lca,oca,hR⟩,hK,e12⟩:=hh
      have hZR:=RepPL.one (hR.weakenW (B:=fun b=>N1≤b∧V2.ownBlock≠some b) (fun b hb h=>⟨by omega,fun e=>by rw[qV2]at e;have:=qOl2 b e;omega⟩))
      rw[qV2]at hZR
      have ns12:w11.heap.size≤w12.heap.size:=e12.size
      refine⟨((Evo.drew _).then e12),?_⟩
      replace he:=(((((he.then e8).then e9).then e10).then e11).then (Ext.drew _)).then e12
      have hs13:=he.size
      replace hb1:=(hb1.mono (Ext.drew _)).mono e12
      have hx13b1:=hb1.lt
      replace hb2:=(hb2.mono (Ext.drew _)).mono e12
      have hx13b2:=hb2.lt
      refine WD.l rfl rfl (l_lit (vs:=[_]) slz_23 rfl (by first|rfl|(simp[Value.cells,Nat.beq_eq, *];done)) rfl rfl rfl) fun _ w13 hh=>?_
      obtain⟨rfl,hb13,e13⟩:=hh
      have ns13:w12.heap.size≤w13.heap.size:=e13.size
      refine⟨(((Evo.drew _).then e12).then e13),?_⟩
      refine WD.l rfl rfl (l_appQ slz_23 rfl rfl (((hO.mono (Ext.drew _)).mono e12).mono e13) (((hV.mono (Ext.drew _)).mono e12).mono e13) (hZR.mono e13) (Src.at slk_23 (flat1 hb13) lca oca) (by omega) (by simp only[maxLen];omega) (by omega)) fun v14 w14 hh=>?_
      obtain⟨hO,hV,e14⟩:=hh
      obtain⟨q14,c14,hq14,_,_⟩:=hO.form
      subst hq14
      have ns14:w13.heap.size≤w14.heap.size:=e14.size
      refine⟨((((Evo.drew _).then e12).then e13).then e14),?_⟩
      refine WD.q rfl (fun _ hS=>r_fieldAddr rfl fo_25_4) ?_
      replace hb2:=(hb2.mono e13).mono e14
      refine WD.l0L rfl rfl (l_store sz_23 rfl rfl (by first|rfl|assumption|exact Own.one (by assumption)) hb2 rfl) fun _ w15 hh=>?_
      obtain⟨hb2,e15,hz15⟩:=hh
      have ns15:w14.heap.size≤w15.heap.size:=e15.size
      refine WT.nil ?_
      refine WC.seq<|WC.seq<|WC.region ?_
      refine WL.q rfl (r_move rfl) ?_
      refine WL.q rfl (r_move rfl) ?_
      replace hK:=((hK.mono e13).mono e14).mono e15
      refine WL.l rfl (l_do body_39 rfl (eatF_ok (b:=125) hK qdm (by decide) (by decide))) fun v16 w16 hh=>?_
      obtain⟨rfl,e16⟩:=hh
      have ns16:w15.heap.size≤w16.heap.size:=e16.size
      refine WL.nil ?_
      refine WC.condF rfl ?_
      refine WC.skip ?_
      refine WC.seq<|WC.region ?_
      refine WL.q rfl (r_move rfl) ?_
      replace hK:=hK.mono e16
      refine WL.l rfl (l_do body_39 rfl (eatT_ok (b:=44) hK qdm (by decide) hs)) fun v17 w17 hh=>?_
      obtain⟨rfl,hK,e17⟩:=hh
      have ns17:w16.heap.size≤w17.heap.size:=e17.size
      refine WL.q rfl (r_not rfl) ?_
      refine WL.nil ?_
      refine WC.condF rfl ?_
      refine WC.skip ?_
      replace hb2:=(hb2.mono e16).mono e17
      replace hO:=((hO.mono e15).mono e16).mono e17
      replace hV:=((hV.mono e15).mono e16).mono e17
      replace hT:=((((((hT.mono (Ext.drew _)).mono e12).mono e13).mono e14).mono e15).mono e16).mono e17
      exact⟨i+1,(.cons rfl (.cons rfl (.cons rfl (.cons rfl (.cons rfl (.cons rfl .nil)))))),.nil,⟨⟨_,_,P2+ps[2 * i+1].length+1,hb2,hO.cast (by omega) rfl,by rw[hsn];exact hV,hK,(drop_c qdm).2.2,by omega⟩,qm,hT.evo⟩,by omega⟩
    · have qdl:ps.drop (2 * (i+1))=[]:=List.drop_eq_nil_of_le (by omega)
      rw[qdl]at qdn qdV qPl
      have q0l:(cM []).length=0:=rfl
      have hsa:ks.take (2 * (i+1))=ks:=List.take_of_length_le (by omega)
      rw[hsa]at hsn
      refine WC.seq<|WC.seq<|WC.region ?_
      refine WL.q rfl (r_move rfl) ?_
      refine WL.q rfl (r_nilp rfl) ?_
      refine WL.q rfl (r_fieldAddr rfl fo_61_2) ?_
      refine WL.q rfl (r_load one_4 rfl (Ext.refl _) (hK.get rfl)) ?_
      refine WL.q rfl (r_not rfl) ?_
      refine WL.nil ?_
      refine WC.condT rfl ?_
      refine WC.skip ?_
      refine WC.block ?_
      refine WC.seq<|WC.seq<|WC.region ?_
      refine WL.q rfl (r_move rfl) ?_
      refine WL.q rfl (r_eql rfl rfl) ?_ --K
      refine WL.nil ?_
      refine WC.condT rfl ?_
      refine WC.seq<|WC.region ?_
      refine WL.q rfl (r_move rfl) ?_
      refine WL.l rfl (l_do body_23 rfl (blank_ok hK (by omega) (by rw[qdK];exact NB.c (by decide)))) fun v6 w6 hh=>?_
      obtain⟨rfl,e6⟩:=hh
      have ns6:wi1.heap.size≤w6.heap.size:=e6.size
      refine WL.nil ?_
      replace hU:=(hU.mono hE).mono e6
      replace hb1:=(hb1.mono hE).mono e6
      replace hb2:=hb2.mono e6
      replace hO:=hO.mono e6
      replace hV:=hV.mono e6
      replace hK:=hK.mono e6
      replace hT:=hT.mono e6
      refine WC.seq<|WC.seq<|WC.regionD [(true,0),(true,1),(true,2),(true,3),(true,4),(true,5),(true,6),(true,7),(true,8),(true,9),(true,10),(true,11),(true,12),(true,13),(true,14),(true,15),(true,16),(true,17),(true,18),(true,19),(true,20),(true,21)] (Ext _) mixed (by kernel_rfl) (Ext.drew _) ?_
      have nd1w6:w6.drew.heap.size=w6.heap.size:=rfl
      refine WD.q rfl (fun _ hS=>r_move rfl) ?_
      refine WD.q rfl (fun _ hS=>r_nilp rfl) ?_
      refine WD.q rfl (fun _ hS=>r_fieldAddr rfl fo_61_1) ?_
      refine WD.q rfl (fun _ hS=>r_load one_3 rfl hS (hK.get rfl)) ?_
      refine WD.q rfl (fun _ hS=>r_move rfl) ?_
      refine WD.q rfl (fun _ hS=>r_nilp rfl) ?_
      refine WD.q rfl (fun _ hS=>r_fieldAddr rfl fo_61_0) ?_
      refine WD.q rfl (fun _ hS=>r_load one_9 rfl hS (hK.get rfl)) ?_
      refine WD.q rfl (fun _ hS=>r_lens str_9 rfl) ?_
      refine WD.q rfl (fun _ hS=>r_cmp (r_geq rfl rfl) (decide_eq_false (by(omega)))) ?_
      refine WD.q rfl (fun _ hS=>r_move rfl) ?_
      refine WD.qg rfl rfl rfl rfl (fun _ hS=>r_move rfl) ?_
      refine WD.qg rfl rfl rfl rfl (fun _ hS=>r_nilp rfl) ?_
      refine WD.qg rfl rfl rfl rfl (fun _ hS=>r_fieldAddr rfl fo_61_0) ?_
      refine WD.qg rfl rfl rfl rfl (fun _ hS=>r_load one_9 rfl hS (hK.get rfl)) ?_
      refine WD.qg rfl rfl rfl rfl (fun _ hS=>r_move rfl) ?_
      refine WD.qg rfl rfl rfl rfl (fun _ hS=>r_nilp rfl) ?_
      refine WD.qg rfl rfl rfl rfl (fun _ hS=>r_fieldAddr rfl fo_61_1) ?_
      refine WD.qg rfl rfl rfl rfl (fun _ hS=>r_load one_3 rfl hS (hK.get rfl)) ?_
      refine WD.qg rfl rfl rfl rfl (fun _ hS=>r_idxs str_9 rfl rfl rfl (by assumption)) ?_
      refine WD.qg rfl rfl rfl rfl (fun _ hS=>r_cmp (r_neq rfl rfl) (bneF (by(rfl)))) ?_
      refine WD.q rfl (fun _ hS=>r_pick rfl rfl rfl) ?_
      refine WD.nil ?_
      refine WC.condF rfl ?_
      refine WC.skip ?_
      replace hU:=hU.mono (Ext.drew _)
      replace hb1:=hb1.mono (Ext.drew _)
      replace hb2:=hb2.mono (Ext.drew _)
      replace hO:=hO.mono (Ext.drew _)
      replace hV:=hV.mono (Ext.drew _)
      replace hK:=hK.mono (Ext.drew _)
      replace hT:=hT.mono (Ext.drew _)
      refine WC.seq<|WC.regionDL 8 [(true,0),(true,1),(true,2),(false,3),(true,4),(false,5),(false,6),(true,7),(false,8)] (Evo (fun b=>b<N1∧b≠jb) _) mixed (by kernel_rfl) (Evo.drew _) ?_
      have nd2w6:w6.drew.drew.heap.size=w6.heap.size:=rfl
      have nd1w6:w6.drew.heap.size=w6.heap.size:=rfl
      refine WD.q rfl (fun _ hS=>r_fieldAddr rfl fo_25_4) ?_
      refine WD.q rfl (fun _ hS=>r_load one_23 rfl hS (hb2.get rfl)) ?_
      refine WD.q rfl (fun _ hS=>r_move rfl) ?_
      refine WD.l rfl rfl (l_do body_31 rfl (text_ok (hK.mono (Ext.drew _)) qQ qdK qv (hU.mono (Ext.drew _)) hj hs (by omega))) fun v7 w7 hh=>?_
      obtain⟨rfl,hK,e7⟩:=hh
      have ns7:w6.heap.size≤w7.heap.size:=e7.size
      refine⟨((Evo.drew _).then e7),?_⟩
      refine WD.q rfl (fun _ hS=>r_bld (cs:=[_,_,_,_,_]) bld_25 rfl rfl) ?_
      replace he:=((((he.then hE).then e6).then (Ext.drew _)).then (Ext.drew _)).then e7
      have hs8:=he.size
      replace hb1:=(hb1.mono (Ext.drew _)).mono e7
      have hx8b1:=hb1.lt
      replace hb2:=(hb2.mono (Ext.drew _)).mono e7
      have hx8b2:=hb2.lt
      refine WD.l rfl rfl (l_lit (vs:=[_]) slz_23 rfl (by first|rfl|(simp[Value.cells,Nat.beq_eq, *];done)) rfl rfl rfl) fun _ w8 hh=>?_
      obtain⟨rfl,hb8,e8⟩:=hh
      have ns8:w7.heap.size≤w8.heap.size:=e8.size
      refine⟨(((Evo.drew _).then e7).then e8),?_⟩
      refine WD.l rfl rfl (l_appQ (ys':=[.mk 6 0 t 0 []]) slz_23 rfl rfl (((hO.mono (Ext.drew _)).mono e7).mono e8) (((hV.mono (Ext.drew _)).mono e7).mono e8) (RepPL.one rep0) (Src.at slk_23 (flat1 hb8) rfl rfl) (by omega) (by simp only[maxLen];omega) (by omega)) fun v9 w9 hh=>?_
      obtain⟨hO,hV,e9⟩:=hh
      obtain⟨q9,c9,hq9,_,_⟩:=hO.form
      subst hq9
      have qOl2:=hO.lt
      obtain⟨V2,qV2⟩:∃V,V=Value.slice q9 (2 * i+1) c9:=⟨_,rfl⟩
      have ns9:w8.heap.size≤w9.heap.size:=e9.size
      refine⟨((((Evo.drew _).then e7).then e8).then e9),?_⟩
      refine WD.q rfl (fun _ hS=>r_fieldAddr rfl fo_25_4) ?_
      replace hb2:=(hb2.mono e8).mono e9
      refine WD.l0L rfl rfl (l_store sz_23 rfl rfl (by first|rfl|assumption|exact Own.one (by assumption)) hb2 rfl) fun _ w10 hh=>?_
      obtain⟨hb2,e10,hz10⟩:=hh
      have ns10:w9.heap.size≤w10.heap.size:=e10.size
      refine WT.nil ?_
      refine WC.seq<|WC.region ?_
      refine WL.q rfl (r_move rfl) ?_
      replace hK:=((hK.mono e8).mono e9).mono e10
      refine WL.l rfl (l_do body_39 rfl (eatT_ok (b:=58) hK qd58 (by decide) hs)) fun v11 w11 hh=>?_
      obtain⟨rfl,hK,e11⟩:=hh
      have ns11:w10.heap.size≤w11.heap.size:=e11.size
      refine WL.q rfl (r_not rfl) ?_
      refine WL.nil ?_
      refine WC.condF rfl ?_
      refine WC.skip ?_
      replace hU:=(((((hU.mono (Ext.drew _)).mono e7).mono e8).mono e9).mono e10).mono e11
      replace hb1:=(((hb1.mono e8).mono e9).mono e10).mono e11
      replace hb2:=hb2.mono e11
      replace hO:=(hO.mono e10).mono e11
      replace hV:=(hV.mono e10).mono e11
      replace hT:=(((((hT.mono (Ext.drew _)).mono e7).mono e8).mono e9).mono e10).mono e11
      refine WC.seq<|WC.regionDL 9 [(true,0),(true,1),(true,2),(true,3),(true,4),(false,5),(false,6),(false,7),(true,8),(false,9)] (Evo (fun b=>b<N1∧b≠jb) _) mixed (by kernel_rfl) (Evo.drew _) ?_
      have nd1w11:w11.drew.heap.size=w11.heap.size:=rfl
      refine WD.q rfl (fun _ hS=>r_fieldAddr rfl fo_25_4) ?_
      refine WD.q rfl (fun _ hS=>r_load one_23 rfl hS (hb2.get rfl)) ?_
      refine WD.q rfl (fun _ hS=>r_move rfl) ?_
      refine WD.q rfl (fun _ hS=>r_move rfl) ?_
      refine WD.q rfl (fun _ hS=>r_subi rfl rfl rfl (by omega) (by omega)) ?_
      refine WD.l rfl rfl (l_do body_22 rfl (hks _ qmem1 (L-1) (lv-1) ps[2 * i+1] (cM []++125::r) jb P2 s _ qjb1 (hF.mem _ qmem1) (hJ.mem _ qmem1) (hN.mem _ qmem1) (Jc (hK.mono (Ext.drew _)) (by omega)) qdV (ND.c (by decide)) (by omega) (by omega) (hU.mono (Ext.drew _)) hj hs)) fun v12 w12 hh=>?_
      obtain⟨⟨ca,rfl,lca,oca,hR⟩,hK,e12⟩:=hh
      have hZR:=RepPL.one (hR.weakenW (B:=fun b=>N1≤b∧V2.ownBlock≠some b) (fun b hb h=>⟨by omega,fun e=>by rw[qV2]at e;have:=qOl2 b e;omega⟩))
      rw[qV2]at hZR
      have ns12:w11.heap.size≤w12.heap.size:=e12.size
      refine⟨((Evo.drew _).then e12),?_⟩
      replace he:=(((((he.then e8).then e9).then e10).then e11).then (Ext.drew _)).then e12
      have hs13:=he.size
      replace hb1:=(hb1.mono (Ext.drew _)).mono e12
      have hx13b1:=hb1.lt
      replace hb2:=(hb2.mono (Ext.drew _)).mono e12
      have hx13b2:=hb2.lt
      refine WD.l rfl rfl (l_lit (vs:=[_]) slz_23 rfl (by first|rfl|(simp[Value.cells,Nat.beq_eq, *];done)) rfl rfl rfl) fun _ w13 hh=>?_
      obtain⟨rfl,hb13,e13⟩:=hh
      have ns13:w12.heap.size≤w13.heap.size:=e13.size
      refine⟨(((Evo.drew _).then e12).then e13),?_⟩
      refine WD.l rfl rfl (l_appQ slz_23 rfl rfl (((hO.mono (Ext.drew _)).mono e12).mono e13) (((hV.mono (Ext.drew _)).mono e12).mono e13) (hZR.mono e13) (Src.at slk_23 (flat1 hb13) lca oca) (by omega) (by simp only[maxLen];omega) (by omega)) fun v14 w14 hh=>?_
      obtain⟨hO,hV,e14⟩:=hh
      obtain⟨q14,c14,hq14,_,_⟩:=hO.form
      subst hq14
      have ns14:w13.heap.size≤w14.heap.size:=e14.size
      refine⟨((((Evo.drew _).then e12).then e13).then e14),?_⟩
      refine WD.q rfl (fun _ hS=>r_fieldAddr rfl fo_25_4) ?_
      replace hb2:=(hb2.mono e13).mono e14
      refine WD.l0L rfl rfl (l_store sz_23 rfl rfl (by first|rfl|assumption|exact Own.one (by assumption)) hb2 rfl) fun _ w15 hh=>?_
      obtain⟨hb2,e15,hz15⟩:=hh
      have ns15:w14.heap.size≤w15.heap.size:=e15.size
      refine WT.nil ?_
      refine WC.seq<|WC.seq<|WC.region ?_
      refine WL.q rfl (r_move rfl) ?_
      refine WL.q rfl (r_move rfl) ?_
      replace hK:=((hK.mono e13).mono e14).mono e15
      refine WL.l rfl (l_do body_39 rfl (eatT_ok (b:=125) hK qdn (by decide) hs)) fun v16 w16 hh=>?_
      obtain⟨rfl,hK,e16⟩:=hh
      have ns16:w15.heap.size≤w16.heap.size:=e16.size
      refine WL.nil ?_
      refine WC.condT rfl ?_
      refine WC.seq<|WC.region ?_
      replace hb2:=hb2.mono e16
      refine WL.q rfl (r_loadAgg agg_25 rfl (Ext.refl _) hb2.at (hn:=by first|rfl|assumption)) ?_
      replace hb1:=(((hb1.mono e13).mono e14).mono e15).mono e16
      refine WL.l0 (l_storeW sz_25 rfl rfl (by first|rfl|assumption|(simp[*];done)|simp[Value.oneCell', *]) (by first|rfl|simp[*]) hb1 (by first|rfl|simp[*])) fun _ w17 hh=>?_
      obtain⟨hb1,e17,hz17⟩:=hh
      have ns17:w16.heap.size≤w17.heap.size:=e17.size
      refine WL.nil ?_
      refine WC.ret ?_
      replace hV:=((hV.mono e15).mono e16).mono e17
      have hVl:=(hV.weaken (B:=fun b=>w.heap.size≤b) fun b h=>by have:=h.1;omega)
      rw[← hsn]at hVl
      replace hO:=((hO.mono e15).mono e16).mono e17
      replace hK:=hK.mono e17
      replace he:=((((he.then e13).then e14).then e15).then e16).then e17
      exact finC rfl hb1 rfl ⟨⟨_,rfl,rfl,rfl,by rw[RepP];exact⟨_,rfl,SlX.own hO (by rw[List.length_map];omega) hVl fun b h1 h2=>by show _≤b;omega⟩⟩,Jc hK (by omega),he.weaken fun k h1 h2=>⟨h1,h2⟩⟩
end Go.Proofs.LL
