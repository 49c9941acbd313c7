/- Contracts of functions and own laws. Conditions: those that each theorem states. -/
import Derived.Test.YtbkhpjeaacoobaaGreatDoorA36
set_option linter.all false
set_option maxRecDepth 20000
namespace Go.Proofs.LL
open Go Go.Proofs Go.RowKit
theorem body_22:bodyB Tryz.prog 22=true:=by kernel_rfl
theorem body_39:bodyB Tryz.prog 39=true:=by kernel_rfl
def VS(x:Pk):Prop:=∀(L lv:Int) (o r:List UInt8) (jb p:Nat) (s:List UInt8) (w:World),JB x o→Fits L x→JOK x→N64 x→Jt w jb s p→s.drop p=o++r→ND r→L<lv→lv≤1000→UT w→1<jb→s.length≤1000000000000→
  Does Tryz.prog 22 [.pointer (some ⟨jb,0,none⟩),.int .i64 lv] w fun u w'=>VR w jb s (p+o.length) (nrm (asJ x)) u w'
def Hd(b:UInt8):Prop:=(b.toNat≠32∧b.toNat≠10∧b.toNat≠13∧b.toNat≠9)∧b.toNat≠93∧b.toNat≠125
theorem dd_cons(n:Nat):∃b r,Lib.decDigits n=b::r∧48≤b.toNat∧b.toNat≤57:=by
  obtain⟨_,h2,h3,_,_⟩:=dd_facts n
  match h:Lib.decDigits n,h3 with
  |b::r,_=>exact⟨b,r,rfl,h2 b (by rw[h];simp)⟩
theorem jb_head{x:Pk}{o:List UInt8}(h:JB x o):∃b r,o=b::r∧Hd b:=by
  obtain⟨k,n,t,e,ks⟩:=x
  rw[JB]at h
  rcases h with⟨_,rfl⟩|⟨_,_,rfl⟩|⟨_,_,rfl⟩|⟨_,_,rfl⟩|⟨_,rfl⟩|⟨_,q,h,rfl⟩|⟨_,rfl⟩|⟨_,ps,h,rfl⟩|⟨_,ps,h,rfl⟩
  · exact⟨_,_,rfl,by decide,by decide,by decide⟩
  · exact⟨_,_,rfl,by decide,by decide,by decide⟩
  · exact⟨_,_,rfl,by decide,by decide,by decide⟩
  · exact⟨_,_,rfl,by decide,by decide,by decide⟩
  · obtain⟨b,r,e1,e2,e3⟩:=dd_cons n
    exact⟨b,r,e1,⟨by omega,by omega,by omega,by omega⟩,by omega,by omega⟩
  · exact⟨_,_,rfl,by decide,by decide,by decide⟩
  · exact⟨_,_,rfl,by decide,by decide,by decide⟩
  · exact⟨_,_,rfl,by decide,by decide,by decide⟩
  · exact⟨_,_,rfl,by decide,by decide,by decide⟩
theorem ND.c{b:UInt8}{r:List UInt8}(h:b.toNat<48∨57<b.toNat):ND (b::r):= .inr ⟨b,r,rfl,h⟩
def nj(x:Pk):Pk:=nrm (asJ x)
theorem fits_pos{L:Int}{x:Pk}(h:Fits L x):0<L:=by
  obtain⟨k,n,t,e,ks⟩:=x
  rw[Fits]at h
  exact h.2.2.2.2.2.2.2.2.2.2.1
theorem list_A{ks:List Pk}{ps:List (List UInt8)}{L lv:Int}{jb p:Nat}{s r:List UInt8}{w:World}(hks:∀x∈ks,VS x)(hP:JBL ks ps)(hF:FitsL (L-1) ks)(hJ:JOKL ks)(hN:N64L ks)(hlen:ks.length≤2000)(hK:Jt w jb s p)(hd:s.drop p=91::((cA ps).tail++93::r))(hL:L<lv)(hv:lv≤1000)(h0:0<L)(hU:UT w)(hj:1<jb)(hs:s.length≤1000000000000):
    Does Tryz.prog 32 [.pointer (some ⟨jb,0,none⟩),.int .i64 8,.int .u8 93,.int .i64 lv] w fun u w'=>VR w jb s (p+1+(cA ps).tail.length+1) (.mk 8 0 [] 0 (ks.map nj)) u w':=by
  have hsz:({data:=s.toArray}:ByteArray).size=s.length:=rfl
  obtain⟨qp0,_,qd1⟩:=drop_c hd
  have hlt:=hK.lt
  have qpl:=hP.len
  have qut:=hU.lt
  unfold VR
  unfold Jt at hK⊢
  rcases Nat.eq_zero_or_pos ks.length with qz|qz
  · have qk:ks=[]:=List.eq_nil_of_length_eq_zero qz
    have qps:ps=[]:=List.eq_nil_of_length_eq_zero (by omega)
    subst qk qps
    refine doesR Tryz.func32 rfl rfl rfl ?_
    have he:Evo (fun k=>k<w.heap.size∧k≠jb) w w:=Evo.refl w
    refine WC.seq<|WC.region ?_
    have hs1:=he.size
    refine WL.l rfl (l_alloc zt_25 rfl) fun _ w1 hh=>?_
    obtain⟨rfl,hb1,e1⟩:=hh
    have nx1:=hb1.lt
    have ns1:w.heap.size≤w1.heap.size:=e1.size
    refine WL.nil ?_
    refine WC.seq<|WC.region ?_
    refine WL.q rfl (r_move rfl) ?_
    refine WL.q rfl (r_bld (cs:=[_,_,_,_,_]) bld_25 rfl rfl) ?_
    replace he:=he.then e1
    have hs2:=he.size
    have hx2b1:=hb1.lt
    refine WL.l rfl (l_alloc zt_25 rfl) fun _ w2 hh=>?_
    obtain⟨rfl,hb2,e2⟩:=hh
    have nx2:=hb2.lt
    have ns2:w1.heap.size≤w2.heap.size:=e2.size
    refine WL.l0 (l_storeW sz_25 rfl rfl (by first|rfl|assumption|(simp[*];done)|simp[Value.oneCell', *]) (by first|rfl|simp[*]) hb2 (by first|rfl|simp[*])) fun _ w3 hh=>?_
    obtain⟨hb2,e3,hz3⟩:=hh
    have ns3:w2.heap.size≤w3.heap.size:=e3.size
    refine WL.nil ?_
    refine WC.seq<|WC.region ?_
    refine WL.q rfl (r_move rfl) ?_
    refine WL.q rfl (r_nilp rfl) ?_
    refine WL.q rfl (r_fieldAddr rfl fo_61_1) ?_
    replace hK:=(hK.mono e1).mono (e2.then e3)
    refine WL.q rfl (r_load one_3 rfl (Ext.refl _) (hK.get rfl)) ?_
    refine WL.q rfl (r_addi rfl rfl rfl (by omega) (by omega)) ?_
    refine WL.q rfl (r_nilp rfl) ?_
    refine WL.q rfl (r_fieldAddr rfl fo_61_1) ?_
    refine WL.l0 (l_store sz_3 rfl rfl (by first|rfl|assumption|exact Own.one (by assumption)) hK rfl) fun _ w4 hh=>?_
    obtain⟨hK,e4,hz4⟩:=hh
    have ns4:w3.heap.size≤w4.heap.size:=e4.size
    refine WL.nil ?_
    refine WC.seq<|WC.seq<|WC.region ?_
    refine WL.q rfl (r_move rfl) ?_
    refine WL.q rfl (r_move rfl) ?_
    refine WL.l rfl (l_do body_39 rfl (eatT_ok (b:=93) (p:=p+1) (r:=r) (Jc hK (by omega)) qd1 (by decide) hs)) fun v5 w5 hh=>?_
    obtain⟨rfl,hK,e5⟩:=hh
    have ns5:w4.heap.size≤w5.heap.size:=e5.size
    refine WL.nil ?_
    refine WC.condT rfl ?_
    refine WC.seq<|WC.region ?_
    replace hb2:=(hb2.mono e4).mono e5
    refine WL.q rfl (r_loadAgg agg_25 rfl (Ext.refl _) hb2.at (hn:=by first|rfl|assumption)) ?_
    replace hb1:=((hb1.mono (e2.then e3)).mono e4).mono e5
    refine WL.l0 (l_storeW sz_25 rfl rfl (by first|rfl|assumption|(simp[*];done)|simp[Value.oneCell', *]) (by first|rfl|simp[*]) hb1 (by first|rfl|simp[*])) fun _ w6 hh=>?_
    obtain⟨hb1,e6,hz6⟩:=hh
    have ns6:w5.heap.size≤w6.heap.size:=e6.size
    refine WL.nil ?_
    refine WC.ret ?_
    replace hK:=hK.mono e6
    replace he:=(((he.then (e2.then e3)).then e4).then e5).then e6
    exact finC rfl hb1 rfl ⟨⟨_,rfl,rfl,rfl,rep0⟩,Jc hK (by simp[cA]),he.weaken fun k h1 h2=>⟨h1,h2⟩⟩
  · obtain⟨x0,kr,qk⟩:∃x r,ks=x::r:=by
      cases ks with
      |nil=>simp at qz
      |cons a b=>exact⟨a,b,rfl⟩
    have qh0:∃b r',s.drop (p+1)=b::r'∧Hd b:=by
      rw[qk,JBL]at hP
      obtain⟨a,b,h1,_,rfl⟩:=hP
      obtain⟨c,d,rfl,h2⟩:=jb_head h1
      exact⟨c,_,qd1,h2⟩
    obtain⟨c0,r0,qc0,qhd⟩:=qh0
    have qdec:∀i,i<ks.length→∃(hi:i<ks.length) (hp:i<ps.length),JB ks[i] ps[i]∧(cA (ps.drop i)).tail=ps[i]++cA (ps.drop (i+1)):=fun i hi=>
      ⟨hi,by omega,hP.get hi (by omega),by rw[List.drop_eq_getElem_cons (by omega)];rfl⟩
    refine doesR Tryz.func32 rfl rfl rfl ?_
    have he:Evo (fun k=>k<w.heap.size∧k≠jb) w w:=Evo.refl w
    refine WC.seq<|WC.region ?_
    have hs1:=he.size
    refine WL.l rfl (l_alloc zt_25 rfl) fun _ w1 hh=>?_
    obtain⟨rfl,hb1,e1⟩:=hh
    have nx1:=hb1.lt
    have ns1:w.heap.size≤w1.heap.size:=e1.size
    refine WL.nil ?_
    refine WC.seq<|WC.region ?_
    refine WL.q rfl (r_move rfl) ?_
    refine WL.q rfl (r_bld (cs:=[_,_,_,_,_]) bld_25 rfl rfl) ?_
    replace he:=he.then e1
    have hs2:=he.size
    have hx2b1:=hb1.lt
    refine WL.l rfl (l_alloc zt_25 rfl) fun _ w2 hh=>?_
    obtain⟨rfl,hb2,e2⟩:=hh
    have nx2:=hb2.lt
    have ns2:w1.heap.size≤w2.heap.size:=e2.size
    refine WL.l0 (l_storeW sz_25 rfl rfl (by first|rfl|assumption|(simp[*];done)|simp[Value.oneCell', *]) (by first|rfl|simp[*]) hb2 (by first|rfl|simp[*])) fun _ w3 hh=>?_
    obtain⟨hb2,e3,hz3⟩:=hh
    have ns3:w2.heap.size≤w3.heap.size:=e3.size
    refine WL.nil ?_
    refine WC.seq<|WC.region ?_
    refine WL.q rfl (r_move rfl) ?_
    refine WL.q rfl (r_nilp rfl) ?_
    refine WL.q rfl (r_fieldAddr rfl fo_61_1) ?_
    replace hK:=(hK.mono e1).mono (e2.then e3)
    refine WL.q rfl (r_load one_3 rfl (Ext.refl _) (hK.get rfl)) ?_
    refine WL.q rfl (r_addi rfl rfl rfl (by omega) (by omega)) ?_
    refine WL.q rfl (r_nilp rfl) ?_
    refine WL.q rfl (r_fieldAddr rfl fo_61_1) ?_
    refine WL.l0 (l_store sz_3 rfl rfl (by first|rfl|assumption|exact Own.one (by assumption)) hK rfl) fun _ w4 hh=>?_
    obtain⟨hK,e4,hz4⟩:=hh
    have ns4:w3.heap.size≤w4.heap.size:=e4.size
    refine WL.nil ?_
    refine WC.seq<|WC.seq<|WC.region ?_
    refine WL.q rfl (r_move rfl) ?_
    refine WL.q rfl (r_move rfl) ?_
    refine WL.l rfl (l_do body_39 rfl (eatF_ok (b:=93) (p:=p+1) (Jc hK (by omega)) qc0 qhd.1 qhd.2.1)) fun v5 w5 hh=>?_
    obtain⟨rfl,e5⟩:=hh
    have ns5:w4.heap.size≤w5.heap.size:=e5.size
    refine WL.nil ?_
    refine WC.condF rfl ?_
    refine WC.skip ?_
    refine WC.seq<|WC.block ?_
    obtain⟨N1,eN1⟩:∃M,M=w5.heap.size:=⟨_,rfl⟩
    replace hK:=hK.mono e5
    replace hU:=(((hU.mono e1).mono (e2.then e3)).mono e4).mono e5
    replace hb1:=((hb1.mono (e2.then e3)).mono e4).mono e5
    replace hb2:=(hb2.mono e4).mono e5
    replace he:=((he.then (e2.then e3)).then e4).then e5
    refine WC.loop2 (ι:=Nat) [(0,_),(1,_),(2,_),(3,_),(8,_),(9,_)] (fun i=>[]) (fun i wi=>(∃sv cs P,Blk wi w1.heap.size [.int .i64 8,.int .u64 0,.string ⟨#[]⟩,.int .i64 0,sv]∧Own N1 25 5 wi sv i cs∧RepPL (fun b=>N1≤b∧sv.ownBlock≠some b) wi ((ks.take i).map nj) cs∧Blk wi jb [str s,.int .i64 ((P:Nat):Int),.bool false]∧s.drop P=(cA (ps.drop i)).tail++93::r∧P+((cA (ps.drop i)).tail).length=p+1+((cA ps).tail).length)∧i<ks.length∧Evo (fun b=>b<N1∧b≠jb∧b≠w1.heap.size) w5 wi) (fun i=>ks.length-i) 0 (.cons rfl (.cons rfl (.cons rfl (.cons rfl (.cons rfl (.cons rfl .nil)))))) .nil (⟨⟨_,[],p+1,hb2,Own.nil _ _ _ _,by rw[List.take_zero,List.map_nil,RepPL],Jc hK (by omega),qd1,rfl⟩,qz,Evo.refl _⟩) ?_
    intro i wi1 hh;obtain⟨hQ,qi,hE⟩:=hh
    obtain⟨sv,cs,P,hb2,hO,hV,hK,qdP,qPl⟩:=hQ
    obtain⟨_,qip,qjb,qtl⟩:=qdec i qi
    have qmem:=List.getElem_mem qi
    have nwi:=hE.size
    have hOl:=hO.lt
    have hT:=Since.mk hE
    rw[qtl,List.append_assoc]at qdP
    rw[qtl,List.length_append]at qPl
    have qpos:P≤s.length:=by
      rcases Nat.lt_or_ge s.length P with h|h
      · rw[List.drop_eq_nil_of_le (by omega)]at qdP
        have:=congrArg List.length qdP
        simp at this
      · exact h
    have qdn:s.drop (P+ps[i].length)=cA (ps.drop (i+1))++93::r:=by rw[← List.drop_drop,qdP,List.drop_left]
    have hsn:(ks.take (i+1)).map nj=(ks.take i).map nj++[nrm (asJ ks[i])]:=by rw[← List.take_append_getElem qi,List.map_append];rfl
    rcases Nat.lt_or_ge (i+1) ks.length with qm|qm
    · obtain⟨_,qip2,_,qtl2⟩:=qdec (i+1) qm
      have qdm:s.drop (P+ps[i].length)=44::((cA (ps.drop (i+1))).tail++93::r):=by
        rw[qdn,List.drop_eq_getElem_cons qip2];rfl
      have qnl:(cA (ps.drop (i+1))).length=1+(cA (ps.drop (i+1))).tail.length:=by
        rw[List.drop_eq_getElem_cons qip2];simp[cA];omega
      refine WC.seq<|WC.seq<|WC.region ?_
      refine WL.q rfl (r_move rfl) ?_
      refine WL.q rfl (r_nilp rfl) ?_
      refine WL.q rfl (r_fieldAddr rfl fo_61_2) ?_
      refine WL.q rfl (r_load one_4 rfl (Ext.refl _) (hK.get rfl)) ?_
      refine WL.q rfl (r_not rfl) ?_
      refine WL.nil ?_
      refine WC.condT rfl ?_
      refine WC.skip ?_
      refine WC.block ?_
      refine WC.seq<|WC.seq<|WC.region ?_
      refine WL.q rfl (r_move rfl) ?_
      refine WL.q rfl (r_eql rfl rfl) ?_ --K
      refine WL.nil ?_
      refine WC.condF rfl ?_
      refine WC.skip ?_
      replace hU:=hU.mono hE
      replace hb1:=hb1.mono hE
      refine WC.seq<|WC.regionDL 9 [(true,0),(true,1),(true,2),(true,3),(true,4),(false,5),(false,6),(false,7),(true,8),(false,9)] (Evo (fun b=>b<N1∧b≠jb) _) mixed (by kernel_rfl) (Evo.drew _) ?_
      have nd1wi1:wi1.drew.heap.size=wi1.heap.size:=rfl
      refine WD.q rfl (fun _ hS=>r_fieldAddr rfl fo_25_4) ?_
      refine WD.q rfl (fun _ hS=>r_load one_23 rfl hS (hb2.get rfl)) ?_
      refine WD.q rfl (fun _ hS=>r_move rfl) ?_
      refine WD.q rfl (fun _ hS=>r_move rfl) ?_
      refine WD.q rfl (fun _ hS=>r_subi rfl rfl rfl (by omega) (by omega)) ?_
      refine WD.l rfl rfl (l_do body_22 rfl (hks _ qmem (L-1) (lv-1) ps[i] (cA (ps.drop (i+1))++93::r) jb P s _ qjb (hF.mem _ qmem) (hJ.mem _ qmem) (hN.mem _ qmem) (hK.mono (Ext.drew _)) qdP (by rw[← qdn,qdm];exact ND.c (by decide)) (by omega) (by omega) (hU.mono (Ext.drew _)) hj hs)) fun v6 w6 hh=>?_
      obtain⟨⟨ca,rfl,lca,oca,hR⟩,hK,e6⟩:=hh
      have hZR:=RepPL.one (hR.weakenW (B:=fun b=>N1≤b∧sv.ownBlock≠some b) (fun b hb h=>⟨by omega,fun e=>by have:=hOl b e;omega⟩))
      have ns6:wi1.heap.size≤w6.heap.size:=e6.size
      refine⟨((Evo.drew _).then e6),?_⟩
      replace he:=((he.then hE).then (Ext.drew _)).then e6
      have hs7:=he.size
      replace hb1:=(hb1.mono (Ext.drew _)).mono e6
      have hx7b1:=hb1.lt
      replace hb2:=(hb2.mono (Ext.drew _)).mono e6
      have hx7b2:=hb2.lt
      refine WD.l rfl rfl (l_lit (vs:=[_]) slz_23 rfl (by first|rfl|(simp[Value.cells,Nat.beq_eq, *];done)) rfl rfl rfl) fun _ w7 hh=>?_
      obtain⟨rfl,hb7,e7⟩:=hh
      have ns7:w6.heap.size≤w7.heap.size:=e7.size
      refine⟨(((Evo.drew _).then e6).then e7),?_⟩
      refine WD.l rfl rfl (l_appQ slz_23 rfl rfl (((hO.mono (Ext.drew _)).mono e6).mono e7) (((hV.mono (Ext.drew _)).mono e6).mono e7) (hZR.mono e7) (Src.at slk_23 (flat1 hb7) lca oca) (by omega) (by simp only[maxLen];omega) (by omega)) fun v8 w8 hh=>?_
      obtain⟨hO,hV,e8⟩:=hh
      obtain⟨q8,c8,hq8,_,_⟩:=hO.form
      subst hq8
      have ns8:w7.heap.size≤w8.heap.size:=e8.size
      refine⟨((((Evo.drew _).then e6).then e7).then e8),?_⟩
      refine WD.q rfl (fun _ hS=>r_fieldAddr rfl fo_25_4) ?_
      replace hb2:=(hb2.mono e7).mono e8
      refine WD.l0L rfl rfl (l_store sz_23 rfl rfl (by first|rfl|assumption|exact Own.one (by assumption)) hb2 rfl) fun _ w9 hh=>?_
      obtain⟨hb2,e9,hz9⟩:=hh
      have ns9:w8.heap.size≤w9.heap.size:=e9.size
      refine WT.nil ?_
      refine WC.seq<|WC.seq<|WC.region ?_
      refine WL.q rfl (r_move rfl) ?_
      refine WL.q rfl (r_move rfl) ?_
      replace hK:=((hK.mono e7).mono e8).mono e9
      refine WL.l rfl (l_do body_39 rfl (eatF_ok (b:=93) hK qdm (by decide) (by decide))) fun v10 w10 hh=>?_
      obtain⟨rfl,e10⟩:=hh
      have ns10:w9.heap.size≤w10.heap.size:=e10.size
      refine WL.nil ?_
      refine WC.condF rfl ?_
      refine WC.skip ?_
      refine WC.seq<|WC.region ?_
      refine WL.q rfl (r_move rfl) ?_
      replace hK:=hK.mono e10
      refine WL.l rfl (l_do body_39 rfl (eatT_ok (b:=44) hK qdm (by decide) hs)) fun v11 w11 hh=>?_
      obtain⟨rfl,hK,e11⟩:=hh
      have ns11:w10.heap.size≤w11.heap.size:=e11.size
      refine WL.q rfl (r_not rfl) ?_
      refine WL.nil ?_
      refine WC.condF rfl ?_
      refine WC.skip ?_
      replace hb2:=(hb2.mono e10).mono e11
      replace hO:=((hO.mono e9).mono e10).mono e11
      replace hV:=((hV.mono e9).mono e10).mono e11
      replace hT:=((((((hT.mono (Ext.drew _)).mono e6).mono e7).mono e8).mono e9).mono e10).mono e11
      exact⟨i+1,(.cons rfl (.cons rfl (.cons rfl (.cons rfl (.cons rfl (.cons rfl .nil)))))),.nil,⟨⟨_,_,P+ps[i].length+1,hb2,hO,by rw[hsn];exact hV,hK,(drop_c qdm).2.2,by omega⟩,qm,hT.evo⟩,by omega⟩
    · have qdl:ps.drop (i+1)=[]:=List.drop_eq_nil_of_le (by omega)
      rw[qdl]at qdn qdP qPl
      have q0l:(cA []).length=0:=rfl
      have hsa:ks.take (i+1)=ks:=List.take_of_length_le (by omega)
      rw[hsa]at hsn
      refine WC.seq<|WC.seq<|WC.region ?_
      refine WL.q rfl (r_move rfl) ?_
      refine WL.q rfl (r_nilp rfl) ?_
      refine WL.q rfl (r_fieldAddr rfl fo_61_2) ?_
      refine WL.q rfl (r_load one_4 rfl (Ext.refl _) (hK.get rfl)) ?_
      refine WL.q rfl (r_not rfl) ?_
      refine WL.nil ?_
      refine WC.condT rfl ?_
      refine WC.skip ?_
      refine WC.block ?_
      refine WC.seq<|WC.seq<|WC.region ?_
      refine WL.q rfl (r_move rfl) ?_
      refine WL.q rfl (r_eql rfl rfl) ?_ --K
      refine WL.nil ?_
      refine WC.condF rfl ?_
      refine WC.skip ?_
      replace hU:=hU.mono hE
      replace hb1:=hb1.mono hE
      refine WC.seq<|WC.regionDL 9 [(true,0),(true,1),(true,2),(true,3),(true,4),(false,5),(false,6),(false,7),(true,8),(false,9)] (Evo (fun b=>b<N1∧b≠jb) _) mixed (by kernel_rfl) (Evo.drew _) ?_
      have nd1wi1:wi1.drew.heap.size=wi1.heap.size:=rfl
      refine WD.q rfl (fun _ hS=>r_fieldAddr rfl fo_25_4) ?_
      refine WD.q rfl (fun _ hS=>r_load one_23 rfl hS (hb2.get rfl)) ?_
      refine WD.q rfl (fun _ hS=>r_move rfl) ?_
      refine WD.q rfl (fun _ hS=>r_move rfl) ?_
      refine WD.q rfl (fun _ hS=>r_subi rfl rfl rfl (by omega) (by omega)) ?_
      refine WD.l rfl rfl (l_do body_22 rfl (hks _ qmem (L-1) (lv-1) ps[i] ([]++93::r) jb P s _ qjb (hF.mem _ qmem) (hJ.mem _ qmem) (hN.mem _ qmem) (hK.mono (Ext.drew _)) qdP (ND.c (by decide)) (by omega) (by omega) (hU.mono (Ext.drew _)) hj hs)) fun v6 w6 hh=>?_
      obtain⟨⟨ca,rfl,lca,oca,hR⟩,hK,e6⟩:=hh
      have hZR:=RepPL.one (hR.weakenW (B:=fun b=>N1≤b∧sv.ownBlock≠some b) (fun b hb h=>⟨by omega,fun e=>by have:=hOl b e;omega⟩))
      have ns6:wi1.heap.size≤w6.heap.size:=e6.size
      refine⟨((Evo.drew _).then e6),?_⟩
      replace he:=((he.then hE).then (Ext.drew _)).then e6
      have hs7:=he.size
      replace hb1:=(hb1.mono (Ext.drew _)).mono e6
      have hx7b1:=hb1.lt
      replace hb2:=(hb2.mono (Ext.drew _)).mono e6
      have hx7b2:=hb2.lt
      refine WD.l rfl rfl (l_lit (vs:=[_]) slz_23 rfl (by first|rfl|(simp[Value.cells,Nat.beq_eq, *];done)) rfl rfl rfl) fun _ w7 hh=>?_
      obtain⟨rfl,hb7,e7⟩:=hh
      have ns7:w6.heap.size≤w7.heap.size:=e7.size
      refine⟨(((Evo.drew _).then e6).then e7),?_⟩
      refine WD.l rfl rfl (l_appQ slz_23 rfl rfl (((hO.mono (Ext.drew _)).mono e6).mono e7) (((hV.mono (Ext.drew _)).mono e6).mono e7) (hZR.mono e7) (Src.at slk_23 (flat1 hb7) lca oca) (by omega) (by simp only[maxLen];omega) (by omega)) fun v8 w8 hh=>?_
      obtain⟨hO,hV,e8⟩:=hh
      obtain⟨q8,c8,hq8,_,_⟩:=hO.form
      subst hq8
      have ns8:w7.heap.size≤w8.heap.size:=e8.size
      refine⟨((((Evo.drew _).then e6).then e7).then e8),?_⟩
      refine WD.q rfl (fun _ hS=>r_fieldAddr rfl fo_25_4) ?_
      replace hb2:=(hb2.mono e7).mono e8
      refine WD.l0L rfl rfl (l_store sz_23 rfl rfl (by first|rfl|assumption|exact Own.one (by assumption)) hb2 rfl) fun _ w9 hh=>?_
      obtain⟨hb2,e9,hz9⟩:=hh
      have ns9:w8.heap.size≤w9.heap.size:=e9.size
      refine WT.nil ?_
      refine WC.seq<|WC.seq<|WC.region ?_
      refine WL.q rfl (r_move rfl) ?_
      refine WL.q rfl (r_move rfl) ?_
      replace hK:=((hK.mono e7).mono e8).mono e9
      refine WL.l rfl (l_do body_39 rfl (eatT_ok (b:=93) hK qdn (by decide) hs)) fun v10 w10 hh=>?_
      obtain⟨rfl,hK,e10⟩:=hh
      have ns10:w9.heap.size≤w10.heap.size:=e10.size
      refine WL.nil ?_
      refine WC.condT rfl ?_
      refine WC.seq<|WC.region ?_
      replace hb2:=hb2.mono e10
      refine WL.q rfl (r_loadAgg agg_25 rfl (Ext.refl _) hb2.at (hn:=by first|rfl|assumption)) ?_
      replace hb1:=(((hb1.mono e7).mono e8).mono e9).mono e10
      refine WL.l0 (l_storeW sz_25 rfl rfl (by first|rfl|assumption|(simp[*];done)|simp[Value.oneCell', *]) (by first|rfl|simp[*]) hb1 (by first|rfl|simp[*])) fun _ w11 hh=>?_
      obtain⟨hb1,e11,hz11⟩:=hh
      have ns11:w10.heap.size≤w11.heap.size:=e11.size
      refine WL.nil ?_
      refine WC.ret ?_
      replace hV:=((hV.mono e9).mono e10).mono e11
      have hVl:=(hV.weaken (B:=fun b=>w.heap.size≤b) fun b h=>by have:=h.1;omega)
      rw[← hsn]at hVl
      replace hO:=((hO.mono e9).mono e10).mono e11
      replace hK:=hK.mono e11
      replace he:=((((he.then e7).then e8).then e9).then e10).then e11
      exact finC rfl hb1 rfl ⟨⟨_,rfl,rfl,rfl,by rw[RepP];exact⟨_,rfl,SlX.own hO (by rw[List.length_map];omega) hVl fun b h1 h2=>by show _≤b;omega⟩⟩,Jc hK (by omega),he.weaken fun k h1 h2=>⟨h1,h2⟩⟩
end Go.Proofs.LL
