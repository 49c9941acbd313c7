/- Contracts of functions and own laws. Conditions: those that each theorem states. -/
import Derived.Test.YtbkhpjeaacoobaaGreatDoorA39
import Derived.ProofKit
import Derived.OpenShut
import Derived.LaidMore
import Derived.ReadAgain
import Derived.ChangeSame
import Derived.Stop.Joined
set_option linter.all false
set_option maxRecDepth 20000
namespace Go.Proofs.LL
open Go Go.Proofs Go.RowKit
theorem bld_61:bldT Tryz.prog 61=some ([(0,1),(1,1),(2,1)],[.string ⟨#[]⟩,.int .i64 0,.bool false]):=by kernel_rfl
theorem ReadJSON_ok{x:Pk}{L:Int}{o:List UInt8}{w:World}(hB:JB x o)(hF:Fits L x)(hL:L<50)(hJ:JOK x)(hN:N64 x)(hU:UT w)(hs:o.length≤1000000000000):
    Does Tryz.prog 10 [str o] w fun u w'=>∃c,u= .tuple #[.agg c.toArray,.bool true]∧c.length=5∧c.all (fun v=>v.oneCell')=true∧RepP (fun b=>w.heap.size≤b) w' (nrm (asJ x)) c∧Ext w w':=by
  have hsz:({data:=o.toArray}:ByteArray).size=o.length:=rfl
  have hut:=hU.lt
  refine doesR Tryz.func10 rfl rfl rfl ?_
  have he:Evo (fun k=>k<w.heap.size) w w:=Evo.refl w
  refine WC.seq<|WC.region ?_
  have hs1:=he.size
  refine WL.l rfl (l_alloc zt_25 rfl) fun _ w1 hh=>?_
  obtain⟨rfl,hb1,e1⟩:=hh
  have nx1:=hb1.lt
  have ns1:w.heap.size≤w1.heap.size:=e1.size
  refine WL.q rfl (r_assign rfl) ?_
  refine WL.nil ?_
  refine WC.seq<|WC.region ?_
  refine WL.q rfl (r_move rfl) ?_
  refine WL.q rfl (r_bld (cs:=[_,_,_]) bld_61 rfl rfl) ?_
  replace he:=he.then e1
  have hs2:=he.size
  have hx2b1:=hb1.lt
  refine WL.l rfl (l_boxAgg rfl) fun _ w2 hh=>?_
  obtain⟨rfl,hb2,e2⟩:=hh
  have nx2:=hb2.lt
  have ns2:w1.heap.size≤w2.heap.size:=e2.size
  refine WL.q rfl (r_assign rfl) ?_
  refine WL.nil ?_
  refine WC.seq<|WC.region ?_
  refine WL.q rfl (r_move rfl) ?_
  replace hU:=(hU.mono e1).mono e2
  refine WL.l rfl (l_do body_22 rfl (vals x L 50 o [] _ 0 o _ hB hF hJ hN hb2 (by simp) (.inl rfl) hL (by decide) hU (by omega) hs)) fun v3 w3 hh=>?_
  obtain⟨⟨ca,rfl,lca,oca,hR⟩,hK,e3⟩:=hh
  have ns3:w2.heap.size≤w3.heap.size:=e3.size
  replace he:=(he.then e2).then e3
  have hs4:=he.size
  replace hb1:=(hb1.mono e2).mono e3
  have hx4b1:=hb1.lt
  refine WL.l rfl (l_alloc zt_25 rfl) fun _ w4 hh=>?_
  obtain⟨rfl,hb4,e4⟩:=hh
  have nx4:=hb4.lt
  have ns4:w3.heap.size≤w4.heap.size:=e4.size
  refine WL.l0 (l_storeW sz_25 rfl rfl (by first|rfl|assumption|(simp[*];done)|simp[Value.oneCell', *]) (by first|rfl|simp[*]) hb4 (by first|rfl|simp[*])) fun _ w5 hh=>?_
  obtain⟨hb4,e5,hz5⟩:=hh
  have ns5:w4.heap.size≤w5.heap.size:=e5.size
  refine WL.nil ?_
  refine WC.seq<|WC.region ?_
  refine WL.q rfl (r_move rfl) ?_
  replace hK:=hK.mono (e4.then e5)
  refine WL.l rfl (l_do body_23 rfl (blank_ok hK (by omega) (by rw[List.drop_eq_nil_of_le (by omega)];exact .inl rfl))) fun v6 w6 hh=>?_
  obtain⟨rfl,e6⟩:=hh
  have ns6:w5.heap.size≤w6.heap.size:=e6.size
  refine WL.nil ?_
  replace hU:=((hU.mono e3).mono (e4.then e5)).mono e6
  replace hb1:=(hb1.mono (e4.then e5)).mono e6
  replace hR:=(hR.mono (e4.then e5)).mono e6
  replace hK:=hK.mono e6
  replace hb4:=hb4.mono e6
  refine WC.seq<|WC.regionD [(true,0),(true,1),(true,2),(true,3),(true,4),(true,5),(true,6),(true,7),(true,8),(true,9),(true,10),(true,11),(true,12),(true,13),(true,14),(false,15),(true,16)] (Evo (fun k=>k≠w.heap.size) _) mixed (by kernel_rfl) (Evo.drew _) ?_
  have nd1w6:w6.drew.heap.size=w6.heap.size:=rfl
  refine WD.q rfl (fun _ hS=>r_loadAgg agg_25 rfl hS hb4.at (hn:=lca)) ?_
  refine WD.q rfl (fun _ hS=>r_move rfl) ?_
  refine WD.q rfl (fun _ hS=>r_nilp rfl) ?_
  refine WD.q rfl (fun _ hS=>r_fieldAddr rfl fo_61_2) ?_
  refine WD.q rfl (fun _ hS=>r_load one_4 rfl hS (hK.get rfl)) ?_
  refine WD.q rfl (fun _ hS=>r_not rfl) ?_
  refine WD.q rfl (fun _ hS=>r_move rfl) ?_
  refine WD.qg rfl rfl rfl rfl (fun _ hS=>r_move rfl) ?_
  refine WD.qg rfl rfl rfl rfl (fun _ hS=>r_nilp rfl) ?_
  refine WD.qg rfl rfl rfl rfl (fun _ hS=>r_fieldAddr rfl fo_61_1) ?_
  refine WD.qg rfl rfl rfl rfl (fun _ hS=>r_load one_3 rfl hS (hK.get rfl)) ?_
  refine WD.qg rfl rfl rfl rfl (fun _ hS=>r_move rfl) ?_
  refine WD.qg rfl rfl rfl rfl (fun _ hS=>r_lens str_9 rfl) ?_
  refine WD.qg rfl rfl rfl rfl (fun _ hS=>r_cmp (r_eql rfl rfl) (beqT (by(omega)))) ?_
  refine WD.q rfl (fun _ hS=>r_pick rfl rfl rfl) ?_
  replace hb1:=hb1.mono (Ext.drew _)
  refine WD.l0 rfl (l_storeW sz_25 rfl rfl (by first|rfl|assumption|(simp[*];done)|simp[Value.oneCell', *]) (by first|rfl|simp[*]) hb1 (by first|rfl|simp[*])) fun _ w7 hh=>?_
  obtain⟨hb1,e7,hz7⟩:=hh
  have ns7:w6.heap.size≤w7.heap.size:=e7.size
  refine⟨((Evo.drew _).then e7),?_⟩
  refine WD.q rfl (fun _ hS=>r_assign rfl) ?_
  refine WD.nil ?_
  refine WC.ret ?_
  replace hR:=(hR.mono (Ext.drew _)).mono e7
  have hRe:=hR.weaken (B:=fun b=>w.heap.size≤b) fun b h=>by show _≤b;omega
  replace he:=(((he.then (e4.then e5)).then e6).then (Ext.drew _)).then e7
  exact finCT rfl hb1 (by rw[lca];rfl) rfl ⟨_,rfl,lca,oca,hRe,he.weaken fun b hb _=>hb⟩
end Go.Proofs.LL
set_option maxRecDepth 20000
namespace Go.Proofs.LL
open Go Go.Proofs Go.RowKit
theorem bld_37:bldT Tryz.prog 37=some ([(0,1),(1,1)],[.int .u64 0,.bool false]):=by kernel_rfl
theorem body_10:bodyB Tryz.prog 10=true:=by kernel_rfl
theorem body_4:bodyB Tryz.prog 4=true:=by kernel_rfl
theorem body_5:bodyB Tryz.prog 5=true:=by kernel_rfl
theorem body_6:bodyB Tryz.prog 6=true:=by kernel_rfl
mutual
def Nums:Pk→Prop
  | .mk _ n _ _ ks=>n<18446744073709551616∧NumsL ks
def NumsL:List Pk→Prop
  |[]=>True
  |x::r=>Nums x∧NumsL r
end
mutual
theorem n64_of:∀ {x:Pk} {L:Int},Fits L x→Nums x→N64 x
  | .mk k n t e ks,L,h,hn=>by
    rw[Fits]at h
    rw[Nums]at hn
    rw[N64]
    exact⟨hn.1,by omega,n64L_of h.2.2.2.2.2.2.2.2.2.2.2 hn.2⟩
theorem n64L_of:∀ {l:List Pk} {L:Int},FitsL L l→NumsL l→N64L l
  |[],_,_,_=>by rw[N64L];trivial
  |x::r,L,h,hn=>by
    rw[FitsL]at h
    rw[NumsL]at hn
    rw[N64L]
    exact⟨n64_of h.1 hn.1,n64L_of h.2 hn.2⟩
end
mutual
theorem n64_as:∀ {x:Pk},N64 x→N64 (asJ x)
  | .mk k n t e ks,h=>by
    rw[N64]at h
    rw[asJ]
    split
    · rw[N64];exact⟨by decide,by simp,by rw[N64L];trivial⟩
    · split
      · rw[N64];exact⟨by decide,by rw[asJL_map,List.length_map];exact h.2.1,n64L_as h.2.2⟩
      · rw[N64];exact h
theorem n64L_as:∀ {l:List Pk},N64L l→N64L (asJL l)
  |[],_=>by rw[asJL,N64L];trivial
  |x::r,h=>by
    rw[N64L]at h
    rw[asJL,N64L]
    exact⟨n64_as h.1,n64L_as h.2⟩
end
mutual
theorem pvol_le:∀ {x:Pk} {L:Int},Fits L x→pvol x≤131082 * pcount x
  | .mk k n t e ks,L,h=>by
    rw[Fits]at h
    rw[pvol,pcount]
    have:=pvolL_cnt h.2.2.2.2.2.2.2.2.2.2.2
    omega
theorem pvolL_cnt:∀ {l:List Pk} {L:Int},FitsL L l→pvolL l≤131082 * pcountL l
  |[],_,_=>by rw[pvolL,pcountL];omega
  |x::r,L,h=>by
    rw[FitsL]at h
    have h1:=pvol_le h.1
    have h2:=pvolL_cnt h.2
    rw[pvolL,pcountL]
    omega
end
theorem zz_ok{A:Nat→Prop}{x:Pk}{cx:List Value}{w:World}(hx:RepP A w x cx):
    Does Tryz.prog 4 [.agg cx.toArray] w fun r w'=>∃b,r= .bool b∧Ext w w':=by
  obtain⟨k,n,t,o,ks⟩:=x
  obtain⟨pk,ck,rfl,_,_⟩:=hx.openP
  refine does1 Tryz.func4 rfl rfl rfl ?_
  have he:Evo (fun _=>True) w w:=Evo.refl w
  refine WC.seq<|WC.region ?_
  have hs1:=he.size
  refine WL.l rfl (l_boxAgg rfl) fun _ w1 hh=>?_
  obtain⟨rfl,hb1,e1⟩:=hh
  refine WL.q rfl (r_assign rfl) ?_
  refine WL.nil ?_
  refine WC.seq<|WC.seq<|WC.region ?_
  refine WL.q rfl (r_fieldAddr rfl fo_25_2) ?_
  refine WL.q rfl (r_load one_9 rfl (Ext.refl _) (hb1.get rfl)) ?_
  refine WL.q rfl (r_lens str_9 rfl) ?_
  refine WL.q rfl (r_gtr rfl rfl) ?_
  refine WL.nil ?_
  refine WC.cond rfl ?_ ?_
  · intro hc
    refine WC.seq<|WC.region ?_
    refine WL.q rfl (r_assign rfl) ?_
    refine WL.nil ?_
    refine WC.ret ?_
    replace he:=he.then e1
    exact fin1 rfl ⟨false,rfl,he⟩
  · intro hc
    refine WC.skip ?_
    refine WC.seq<|WC.seq<|WC.region ?_
    refine WL.q rfl (r_fieldAddr rfl fo_25_4) ?_
    refine WL.q rfl (r_load one_23 rfl (Ext.refl _) (hb1.get rfl)) ?_
    refine WL.q rfl (r_len sl_23 rfl) ?_
    refine WL.q rfl (r_gtr rfl rfl) ?_
    refine WL.nil ?_
    refine WC.cond rfl ?_ ?_
    · intro hc2
      refine WC.seq<|WC.region ?_
      refine WL.q rfl (r_assign rfl) ?_
      refine WL.nil ?_
      refine WC.ret ?_
      replace he:=he.then e1
      exact fin1 rfl ⟨false,rfl,he⟩
    · intro hc2
      refine WC.skip ?_
      refine WC.seq<|WC.region ?_
      refine WL.q rfl (r_assign rfl) ?_
      refine WL.nil ?_
      refine WC.ret ?_
      replace he:=he.then e1
      exact fin1 rfl ⟨true,rfl,he⟩
def xT:Pk:= .mk 1 1 [] 0 []
theorem xT_jb{o:List UInt8}(h:JB xT o):o=[116,114,117,101]:=by
  unfold xT at h
  rw[JB]at h
  rcases h with⟨h,_⟩|⟨_,_,h⟩|⟨_,h,_⟩|⟨h,_⟩|⟨h,_⟩|⟨h,_⟩|⟨h,_⟩|⟨h,_⟩|⟨h,_⟩
  all_goals first|exact h|(exfalso;omega)
theorem xT_fits:Fits 1 xT:=by
  unfold xT
  rw[Fits]
  exact⟨by decide,by decide,fun _=>rfl,fun _=>rfl,fun h=>by omega,fun _=>rfl,fun _=>by decide,fun h=>by omega,by decide,by decide,by decide,by rw[FitsL];trivial⟩
theorem xT_jok:JOK xT:=by
  unfold xT
  rw[JOK]
  exact⟨by decide,by decide,by decide,fun h=>by omega,fun h=>by omega,fun h=>by omega⟩
theorem xT_n64:N64 xT:=by
  unfold xT
  rw[N64]
  exact⟨by decide,by simp,by rw[N64L];trivial⟩
theorem xT_enc:EncP xT [195]:=by
  unfold xT
  rw[EncP]
  exact .inr (.inl ⟨rfl,by decide⟩)
theorem xT_vol:pvol xT≤1000000000:=by
  unfold xT
  rw[pvol,pvolL]
  decide
theorem law_js{A:Nat→Prop}{x:Pk}{cx:List Value}{z:Int}{w:World}(hx:RepP A w x cx)(hn:Nums x)(z0:0≤z)(z1:z<18446744073709551616)(hU:UT w)(hT:PT w):
    Does Tryz.prog 3 [.agg cx.toArray,.int .u64 z] w fun r w'=>r= .bool true∧Ext w w':=by
  have hUl:=hU.lt
  have hTl:=hT.lt
  have hx0:=hx.weakenW (B:=fun b=>b<w.heap.size) (fun b hb _=>hb)
  have hx1:=hx0
  obtain⟨k,n,t,o,ks⟩:=x
  obtain⟨pk,ck,rfl,_,_⟩:=hx.openP
  refine does1 Tryz.func3 rfl rfl rfl ?_
  have he:Evo (fun b=>b<w.heap.size) w w:=Evo.refl w
  refine WC.seq<|WC.region ?_
  have hs1:=he.size
  refine WL.l rfl (l_boxAgg rfl) fun _ w1 hh=>?_
  obtain⟨rfl,hb1,e1⟩:=hh
  have nx1:=hb1.lt
  have ns1:w.heap.size≤w1.heap.size:=e1.size
  refine WL.q rfl (r_assign rfl) ?_
  refine WL.nil ?_
  refine WC.seq<|WC.seq<|WC.region ?_
  refine WL.q rfl (r_loadAgg agg_25 rfl (Ext.refl _) hb1.at (hn:=by first|rfl|assumption)) ?_
  replace hx0:=hx0.mono e1
  refine WL.l rfl (l_do body_4 rfl (zz_ok hx0)) fun v2 w2 hh=>?_
  obtain⟨zb,rfl,e2⟩:=hh
  have ns2:w1.heap.size≤w2.heap.size:=e2.size
  cases zb
  · skip
    refine WL.q rfl (r_not rfl) ?_
    refine WL.nil ?_
    refine WC.condT rfl ?_
    refine WC.seq<|WC.region ?_
    refine WL.q rfl (r_assign rfl) ?_
    refine WL.nil ?_
    refine WC.ret ?_
    replace he:=(he.then e1).then e2
    exact fin1 rfl ⟨rfl,he.weaken fun k hk _=>hk⟩
  · skip
    refine WL.q rfl (r_not rfl) ?_
    refine WL.nil ?_
    refine WC.condF rfl ?_
    refine WC.skip ?_
    refine WC.seq<|WC.region ?_
    replace he:=(he.then e1).then e2
    have hs3:=he.size
    replace hb1:=hb1.mono e2
    have hx3b1:=hb1.lt
    refine WL.l rfl (l_lit (vs:=[_]) slz_27 rfl (by first|rfl|(simp[Value.cells,Nat.beq_eq, *];done)) rfl rfl rfl) fun _ w3 hh=>?_
    obtain⟨rfl,hb3,e3⟩:=hh
    have ns3:w2.heap.size≤w3.heap.size:=e3.size
    replace hU:=((hU.mono e1).mono e2).mono e3
    replace hT:=((hT.mono e1).mono e2).mono e3
    refine WL.l rfl (l_do body_5 rfl (ToJSON_ok (A:=fun _=>True) (x:=xT) (L:=1) (bs:=[195]) ⟨_,_,rfl,by simp,fun _=>⟨_,_,rfl,trivial,fun j hj=>match j,hj with|0,_=>hb3.get (j:=0) rfl|j+1,h=>absurd h (by simp)⟩⟩ hU hT xT_fits (by decide) xT_jok xT_n64 xT_enc xT_vol)) fun v4 w4 hh=>?_
    obtain⟨ot,pt,ct,rfl,qot,e4⟩:=hh
    have qo1:=xT_jb qot
    subst qo1
    have ns4:w3.heap.size≤w4.heap.size:=e4.size
    refine WL.q rfl (r_move rfl) ?_
    refine WL.q rfl (r_extract rfl rfl) ?_
    refine WL.q rfl (r_extract rfl rfl) ?_
    refine WL.q rfl (r_extract rfl rfl) ?_
    refine WL.q rfl (r_assign rfl) ?_
    refine WL.q rfl (r_assign rfl) ?_
    refine WL.q rfl (r_assign rfl) ?_
    refine WL.nil ?_
    refine WC.seq<|WC.region ?_
    refine WL.q rfl (r_move rfl) ?_
    refine WL.q rfl (r_move rfl) ?_
    refine WL.qg rfl rfl rfl rfl (r_move rfl) ?_
    refine WL.qg rfl rfl rfl rfl (r_cmp (r_streq rfl rfl) (beq_self_eq_true _)) ?_
    refine WL.q rfl (r_pick rfl rfl rfl) ?_
    refine WL.q rfl (r_assign rfl) ?_
    refine WL.nil ?_
    refine WC.seq<|WC.seq<|WC.region ?_
    replace hb1:=(hb1.mono e3).mono e4
    refine WL.q rfl (r_loadAgg agg_25 rfl (Ext.refl _) hb1.at (hn:=by first|rfl|assumption)) ?_
    replace hx0:=((hx0.mono e2).mono e3).mono e4
    refine WL.l rfl (l_do body_6 rfl (PackFits_ok hx0 (by decide) (by decide))) fun v5 w5 hh=>?_
    obtain⟨zc,rfl,qz,e5⟩:=hh
    have ns5:w4.heap.size≤w5.heap.size:=e5.size
    cases zc
    · skip
      refine WL.q rfl (r_not rfl) ?_
      refine WL.q rfl (r_move rfl) ?_
      refine WL.sk rfl rfl rfl rfl rfl ?_
      refine WL.sk rfl rfl rfl rfl rfl ?_
      refine WL.sk rfl rfl rfl rfl rfl ?_
      refine WL.q rfl (r_pick rfl rfl rfl) ?_
      refine WL.nil ?_
      refine WC.condT rfl ?_
      refine WC.seq<|WC.region ?_
      refine WL.q rfl (r_move rfl) ?_
      refine WL.q rfl (r_assign rfl) ?_
      refine WL.nil ?_
      refine WC.ret ?_
      replace he:=((he.then e3).then e4).then e5
      exact fin1 rfl ⟨rfl,he.weaken fun k hk _=>hk⟩
    · obtain⟨qpc,qF⟩:=qz rfl
      rcases Nat.lt_or_ge 500 (pcount (.mk k n t o ks))with q5|q5
      · skip
        refine WL.q rfl (r_not rfl) ?_
        refine WL.q rfl (r_move rfl) ?_
        replace hb1:=hb1.mono e5
        refine WL.qg rfl rfl rfl rfl (r_loadAgg agg_25 rfl (Ext.refl _) hb1.at (hn:=by first|rfl|assumption)) ?_
        replace hx0:=hx0.mono e5
        refine WL.lg rfl rfl rfl rfl (l_do body_7 rfl (packss _ _ _ _ hx0 (by omega))) fun v6 w6 hh=>?_
        obtain⟨rfl,e6⟩:=hh
        have ns6:w5.heap.size≤w6.heap.size:=e6.size
        refine WL.qg rfl rfl rfl rfl (r_cmp (r_gtr rfl rfl) (decide_eq_true (by(omega)))) ?_
        refine WL.q rfl (r_pick rfl rfl rfl) ?_
        refine WL.nil ?_
        refine WC.condT rfl ?_
        refine WC.seq<|WC.region ?_
        refine WL.q rfl (r_move rfl) ?_
        refine WL.q rfl (r_assign rfl) ?_
        refine WL.nil ?_
        refine WC.ret ?_
        replace he:=(((he.then e3).then e4).then e5).then e6
        exact fin1 rfl ⟨rfl,he.weaken fun k hk _=>hk⟩
      · skip
        refine WL.q rfl (r_not rfl) ?_
        refine WL.q rfl (r_move rfl) ?_
        replace hb1:=hb1.mono e5
        refine WL.qg rfl rfl rfl rfl (r_loadAgg agg_25 rfl (Ext.refl _) hb1.at (hn:=by first|rfl|assumption)) ?_
        replace hx0:=hx0.mono e5
        refine WL.lg rfl rfl rfl rfl (l_do body_7 rfl (packss _ _ _ _ hx0 (by omega))) fun v6 w6 hh=>?_
        obtain⟨rfl,e6⟩:=hh
        have ns6:w5.heap.size≤w6.heap.size:=e6.size
        refine WL.qg rfl rfl rfl rfl (r_cmp (r_gtr rfl rfl) (decide_eq_false (by(omega)))) ?_
        refine WL.q rfl (r_pick rfl rfl rfl) ?_
        refine WL.nil ?_
        refine WC.condF rfl ?_
        refine WC.skip ?_
        refine WC.seq<|WC.region ?_
        replace hb1:=hb1.mono e6
        refine WL.q rfl (r_loadAgg agg_25 rfl (Ext.refl _) hb1.at (hn:=by first|rfl|assumption)) ?_
        replace hx0:=hx0.mono e6
        replace hU:=((hU.mono e4).mono e5).mono e6
        refine WL.l rfl (l_do body_8 rfl (ass _ _ _ _ _ hx0 qF hU)) fun v7 w7 hh=>?_
        obtain⟨ca,zd,rfl,lca,oca,qJ,e7⟩:=hh
        have ns7:w6.heap.size≤w7.heap.size:=e7.size
        cases zd
        · skip
          refine WL.q rfl (r_move rfl) ?_
          refine WL.q rfl (r_extract rfl rfl) ?_
          refine WL.q rfl (r_extract rfl rfl) ?_
          replace he:=((((he.then e3).then e4).then e5).then e6).then e7
          have hs8:=he.size
          replace hb1:=hb1.mono e7
          have hx8b1:=hb1.lt
          replace hb3:=(((hb3.mono e4).mono e5).mono e6).mono e7
          have hx8b3:=hb3.lt
          refine WL.l rfl (l_alloc zt_25 rfl) fun _ w8 hh=>?_
          obtain⟨rfl,hb8,e8⟩:=hh
          have nx8:=hb8.lt
          have ns8:w7.heap.size≤w8.heap.size:=e8.size
          refine WL.l0 (l_storeW sz_25 rfl rfl (by first|rfl|assumption|(simp[*];done)|simp[Value.oneCell', *]) (by first|rfl|simp[*]) hb8 (by first|rfl|simp[*])) fun _ w9 hh=>?_
          obtain⟨hb8,e9,hz9⟩:=hh
          have ns9:w8.heap.size≤w9.heap.size:=e9.size
          refine WL.q rfl (r_assign rfl) ?_
          refine WL.nil ?_
          refine WC.seq<|WC.seq<|WC.region ?_
          refine WL.q rfl (r_move rfl) ?_
          refine WL.q rfl (r_not rfl) ?_
          refine WL.nil ?_
          refine WC.condT rfl ?_
          refine WC.seq<|WC.region ?_
          refine WL.q rfl (r_move rfl) ?_
          refine WL.q rfl (r_assign rfl) ?_
          refine WL.nil ?_
          refine WC.ret ?_
          replace he:=he.then (e8.then e9)
          exact fin1 rfl ⟨rfl,he.weaken fun k hk _=>hk⟩
        · obtain⟨qJO,hRA⟩:=qJ rfl
          have hN:=n64_of qF hn
          have hvol:pvol (.mk k n t o ks)≤1000000000:=by have:=pvol_le qF;omega
          have hRA:=hRA.weakenW (B:=fun b=>b<w7.heap.size) (fun b h _=>h)
          refine WL.q rfl (r_move rfl) ?_
          refine WL.q rfl (r_extract rfl rfl) ?_
          refine WL.q rfl (r_extract rfl rfl) ?_
          replace he:=((((he.then e3).then e4).then e5).then e6).then e7
          have hs8:=he.size
          replace hb1:=hb1.mono e7
          have hx8b1:=hb1.lt
          replace hb3:=(((hb3.mono e4).mono e5).mono e6).mono e7
          have hx8b3:=hb3.lt
          refine WL.l rfl (l_alloc zt_25 rfl) fun _ w8 hh=>?_
          obtain⟨rfl,hb8,e8⟩:=hh
          have nx8:=hb8.lt
          have ns8:w7.heap.size≤w8.heap.size:=e8.size
          refine WL.l0 (l_storeW sz_25 rfl rfl (by first|rfl|assumption|(simp[*];done)|simp[Value.oneCell', *]) (by first|rfl|simp[*]) hb8 (by first|rfl|simp[*])) fun _ w9 hh=>?_
          obtain⟨hb8,e9,hz9⟩:=hh
          have ns9:w8.heap.size≤w9.heap.size:=e9.size
          refine WL.q rfl (r_assign rfl) ?_
          refine WL.nil ?_
          refine WC.seq<|WC.seq<|WC.region ?_
          refine WL.q rfl (r_move rfl) ?_
          refine WL.q rfl (r_not rfl) ?_
          refine WL.nil ?_
          refine WC.condF rfl ?_
          refine WC.skip ?_
          refine WC.seq<|WC.region ?_
          replace hb1:=hb1.mono (e8.then e9)
          refine WL.q rfl (r_loadAgg agg_25 rfl (Ext.refl _) hb1.at (hn:=by first|rfl|assumption)) ?_
          refine WL.q rfl (r_move rfl) ?_
          refine WL.q rfl (r_bld (cs:=[_,_]) bld_37 rfl rfl) ?_
          replace he:=he.then (e8.then e9)
          have hs10:=he.size
          have hx10b1:=hb1.lt
          replace hb3:=hb3.mono (e8.then e9)
          have hx10b3:=hb3.lt
          have hx10b8:=hb8.lt
          refine WL.l rfl (l_boxAgg rfl) fun _ w10 hh=>?_
          obtain⟨rfl,hb10,e10⟩:=hh
          have nx10:=hb10.lt
          have ns10:w9.heap.size≤w10.heap.size:=e10.size
          replace hx0:=((hx0.mono e7).mono (e8.then e9)).mono e10
          refine WL.l rfl (l_do body_9 rfl (puts _ 6 _ _ _ (hx0.weaken fun b h=>by omega) qF qJO hN hvol ⟨z,_,z0,z1,hb10⟩)) fun v11 w11 hh=>?_
          obtain⟨bs,qE,hI,hFm,e11⟩:=hh
          have ns11:w10.heap.size≤w11.heap.size:=e11.size
          replace hU:=(((hU.mono e7).mono (e8.then e9)).mono e10).mono e11
          replace hT:=((((((hT.mono e4).mono e5).mono e6).mono e7).mono (e8.then e9)).mono e10).mono e11
          refine WL.l rfl (l_do body_5 rfl (ToJSON_ok hI hU hT qF (by decide) qJO hN qE hvol)) fun v12 w12 hh=>?_
          obtain⟨oj,pj,cj,rfl,qoj,e12⟩:=hh
          have qol:=jb_len qoj hN
          have ns12:w11.heap.size≤w12.heap.size:=e12.size
          refine WL.q rfl (r_move rfl) ?_
          refine WL.q rfl (r_extract rfl rfl) ?_
          refine WL.q rfl (r_extract rfl rfl) ?_
          refine WL.q rfl (r_extract rfl rfl) ?_
          refine WL.q rfl (r_assign rfl) ?_
          refine WL.q rfl (r_assign rfl) ?_
          refine WL.q rfl (r_assign rfl) ?_
          refine WL.nil ?_
          refine WC.seq<|WC.region ?_
          refine WL.q rfl (r_move rfl) ?_
          replace hU:=hU.mono e12
          refine WL.l rfl (l_do body_10 rfl (ReadJSON_ok qoj qF (by decide) qJO hN hU (by omega))) fun v13 w13 hh=>?_
          obtain⟨cb,rfl,lcb,ocb,hRB,e13⟩:=hh
          have ns13:w12.heap.size≤w13.heap.size:=e13.size
          refine WL.q rfl (r_move rfl) ?_
          refine WL.q rfl (r_extract rfl rfl) ?_
          refine WL.q rfl (r_extract rfl rfl) ?_
          replace he:=(((he.then e10).then e11).then e12).then e13
          have hs14:=he.size
          replace hb1:=(((hb1.mono e10).mono e11).mono e12).mono e13
          have hx14b1:=hb1.lt
          replace hb3:=(((hb3.mono e10).mono e11).mono e12).mono e13
          have hx14b3:=hb3.lt
          replace hb8:=(((hb8.mono e10).mono e11).mono e12).mono e13
          have hx14b8:=hb8.lt
          refine WL.l rfl (l_alloc zt_25 rfl) fun _ w14 hh=>?_
          obtain⟨rfl,hb14,e14⟩:=hh
          have nx14:=hb14.lt
          have ns14:w13.heap.size≤w14.heap.size:=e14.size
          refine WL.l0 (l_storeW sz_25 rfl rfl (by first|rfl|assumption|(simp[*];done)|simp[Value.oneCell', *]) (by first|rfl|simp[*]) hb14 (by first|rfl|simp[*])) fun _ w15 hh=>?_
          obtain⟨hb14,e15,hz15⟩:=hh
          have ns15:w14.heap.size≤w15.heap.size:=e15.size
          refine WL.q rfl (r_assign rfl) ?_
          refine WL.nil ?_
          refine WC.seq<|WC.region ?_
          refine WL.q rfl (r_move rfl) ?_
          refine WL.q rfl (r_move rfl) ?_
          refine WL.qg rfl rfl rfl rfl (r_move rfl) ?_
          refine WL.qg rfl rfl rfl rfl (r_len sl_27 rfl) ?_
          refine WL.qg rfl rfl rfl rfl (r_cmp (r_eql rfl rfl) (beqT (by(rfl)))) ?_
          refine WL.q rfl (r_pick rfl rfl rfl) ?_
          refine WL.q rfl (r_move rfl) ?_
          refine WL.qg rfl rfl rfl rfl (r_move rfl) ?_
          refine WL.q rfl (r_pick rfl rfl rfl) ?_
          refine WL.q rfl (r_move rfl) ?_
          refine WL.qg rfl rfl rfl rfl (r_loadAgg agg_25 rfl (Ext.refl _) hb14.at (hn:=by first|rfl|assumption)) ?_
          replace hb8:=hb8.mono (e14.then e15)
          refine WL.qg rfl rfl rfl rfl (r_loadAgg agg_25 rfl (Ext.refl _) hb8.at (hn:=by first|rfl|assumption)) ?_
          replace hRA:=(((((hRA.mono (e8.then e9)).mono e10).mono e11).mono e12).mono e13).mono (e14.then e15)
          replace hRB:=hRB.mono (e14.then e15)
          refine WL.lg rfl rfl rfl rfl (l_do body_11 rfl (sames _ _ _ _ _ _ (n64_as hN) hRB hRA)) fun v16 w16 hh=>?_
          obtain⟨rfl,e16⟩:=hh
          have ns16:w15.heap.size≤w16.heap.size:=e16.size
          refine WL.q rfl (r_pick rfl rfl rfl) ?_
          refine WL.q rfl (r_move rfl) ?_
          refine WL.qg rfl rfl rfl rfl (r_move rfl) ?_
          refine WL.q rfl (r_pick rfl rfl rfl) ?_
          refine WL.q rfl (r_assign rfl) ?_
          refine WL.nil ?_
          refine WC.ret ?_
          replace he:=(he.then (e14.then e15)).then e16
          exact fin1 rfl ⟨rfl,he.weaken fun k hk _=>hk⟩
end Go.Proofs.LL
set_option maxRecDepth 20000
namespace Go.Proofs.LL
open Go Go.Proofs Go.RowKit
theorem c25:Tryz.prog.cellsOf 25=5:=by kernel_rfl
theorem c3:Tryz.prog.cellsOf 3=1:=by kernel_rfl
theorem c9:Tryz.prog.cellsOf 9=1:=by kernel_rfl
theorem c23:Tryz.prog.cellsOf 23=1:=by kernel_rfl
theorem c22:Tryz.prog.cellsOf 22=1:=by kernel_rfl
theorem wfu64{z:Int}(h:(Lit.int .u64 z).wf=true):0≤z∧z<18446744073709551616:=by
  simp[Lit.wf,IntKind.min,IntKind.max,IntKind.signed,IntKind.bits]at h
  omega
theorem NumsL.snoc:∀ {l:List Pk} {x:Pk},NumsL l→Nums x→NumsL (l++[x])
  |[],x,_,h=>by rw[List.nil_append,NumsL];exact⟨h,by rw[NumsL];trivial⟩
  |y::r,x,h,h'=>by
    rw[NumsL]at h
    rw[List.cons_append,NumsL]
    exact⟨h.1,h.2.snoc h'⟩
section
variable {H:Type} {enc:TypeId×Value→H} {w:World} {base:Nat} {spare:Nat→Bool} {held:Bool}
theorem row_at{a:Addr}{z len:Nat}{Q:List Value→Prop}(hz:0<z)(h:∀i,i<len→∃cs,w.cells? base (a.add (i * z)) z=some cs∧Q cs)(h0:0<len):
    ∃b o,a=⟨b,o,none⟩∧b<w.heap.size∧∀i,i<len→∃cs,cs.length=z∧At w b (o+i * z) cs∧Q cs:=by
  obtain⟨b,o,spot⟩:=a
  obtain⟨cs,h1,h2⟩:=h 0 h0
  obtain⟨_,hl,hc⟩:=World.cells?_some h1
  have hc0:=hc 0 hz
  have hsp:spot=none:=by
    rw[List.getElem?_eq_getElem (by omega)]at hc0
    have:=World.cell?_spot hc0
    simpa[Addr.add]using this
  subst hsp
  refine⟨b,o,rfl,?_,fun i hi=>?_⟩
  · rw[List.getElem?_eq_getElem (by omega),Nat.zero_mul,Addr_add,Addr_add]at hc0
    exact lt_of_cell hc0
  · obtain⟨cs',h3,h4⟩:=h i hi
    obtain⟨_,hl',hc'⟩:=World.cells?_some h3
    refine⟨cs',hl',fun j hj=>?_,h4⟩
    have:=hc' j (by omega)
    rw[Addr_add,Addr_add]at this
    exact this
theorem At.app{b o:Nat}{c d:List Value}(h:At w b o c)(h':At w b (o+c.length) d):At w b o (c++d):=fun j hj=>by
  rcases Nat.lt_or_ge j c.length with h1|h1
  · rw[h j h1,List.getElem?_append_left h1]
  · have:=h' (j-c.length) (by rw[List.length_append]at hj;omega)
    rw[List.getElem?_append_right h1,← this]
    congr 2;omega
theorem rows_P{b o len:Nat}(h:∀i,i<len→∃cs,cs.length=5∧At w b (o+i * 5) cs∧∃V,RepP (fun b=>b<w.heap.size) w V cs∧Nums V):∀k,k≤len→∃ys cells,ys.length=k∧RepPL (fun b=>b<w.heap.size) w ys cells∧At w b o cells∧cells.length=k * 5∧NumsL ys
  |0,_=>⟨[],[],rfl,by rw[RepPL],fun j hj=>absurd hj (by simp),rfl,by rw[NumsL];trivial⟩
  |k+1,hk=>by
    obtain⟨ys,cells,h1,h2,h3,h4,hn⟩:=rows_P h k (by omega)
    obtain⟨cs,h5,h6,V,h7,hn2⟩:=h k (by omega)
    exact⟨ys++[V],cells++cs,by simp[h1],h2.snoc h7,h3.app (by rw[h4];exact h6),by rw[List.length_append,h4,h5];omega,hn.snoc hn2⟩
theorem open_Ps{n:Nat}(ih:∀cs x,DataW.trod enc Tryz.prog w base spare held n 25 cs=some x→∃V,RepP (fun b=>b<w.heap.size) w V cs∧Nums V){cs:List Value}{x:DataW H×List MemPlace}(h:DataW.trod enc Tryz.prog w base spare held (n+1) 23 cs=some x):
    ∃ys sk,cs=[sk]∧SlX (fun b=>b<w.heap.size) w ys.length sk (RepPL (fun b=>b<w.heap.size) w ys)∧NumsL ys:=by
  rcases DataW.trod_slice Tryz.underlying23 h with⟨rfl,_⟩|⟨a,len,cap,elems,rest,m,hm,rfl,_,_,hlc,_,hel,hall,_⟩
  · exact⟨[],_,rfl,SlX.nil,by rw[NumsL];trivial⟩
  · obtain rfl:n=m:=by omega
    rcases Nat.eq_zero_or_pos len with h0|h0
    · subst h0
      exact⟨[],_,rfl,⟨some a,cap,[],rfl,Nat.zero_le _,by rw[RepPL],.inl rfl⟩,by rw[NumsL];trivial⟩
    · rw[c25]at hall
      obtain⟨b,o,rfl,hb,hr⟩:=row_at (z:=5) (len:=len) (Q:=fun cs=>∃V,RepP (fun b=>b<w.heap.size) w V cs∧Nums V) (by omega) (fun i hi=>by
        have h1:=hall i hi
        rw[List.getElem?_eq_getElem (by omega)]at h1
        obtain⟨cs',h2,h3⟩:=Option.bind_eq_some_iff.1 h1
        exact⟨cs',h2,ih _ _ h3⟩) h0
      obtain⟨ys,cells,h1,h2,h3,h4,hn⟩:=rows_P hr len (Nat.le_refl _)
      exact⟨ys,_,rfl,⟨some ⟨b,o,none⟩,cap,cells,by rw[h1],by omega,h2,.inr ⟨b,o,rfl,hb,h3⟩⟩,hn⟩
theorem open_P:∀(n:Nat) (cs:List Value) (x:DataW H×List MemPlace),DataW.trod enc Tryz.prog w base spare held n 25 cs=some x→∃V,RepP (fun b=>b<w.heap.size) w V cs∧Nums V:=by
  intro n
  induction n using Nat.strongRecOn with
  |_ n ih=>
    intro cs x h
    obtain⟨xs,m,rfl,_,hcl,hxl,hf⟩:=DataW.trod_struct Tryz.underlying25 h
    rw[c25]at hcl
    have f0:DataW.trod enc Tryz.prog w base spare held m 3 ((cs.drop 0).take (Tryz.prog.cellsOf 3))=xs[0]?:=hf 0 _ rfl
    have f1:DataW.trod enc Tryz.prog w base spare held m 22 ((cs.drop 1).take (Tryz.prog.cellsOf 22))=xs[1]?:=hf 1 _ rfl
    have f2:DataW.trod enc Tryz.prog w base spare held m 9 ((cs.drop 2).take (Tryz.prog.cellsOf 9))=xs[2]?:=hf 2 _ rfl
    have f3:DataW.trod enc Tryz.prog w base spare held m 3 ((cs.drop 3).take (Tryz.prog.cellsOf 3))=xs[3]?:=hf 3 _ rfl
    have f4:DataW.trod enc Tryz.prog w base spare held m 23 ((cs.drop 4).take (Tryz.prog.cellsOf 23))=xs[4]?:=hf 4 _ rfl
    have hx5:xs.length=5:=hxl
    match cs,hcl with
    |[a0,a1,a2,a3,a4],_=>
      rw[c3,List.getElem?_eq_getElem (by omega)]at f0 f3
      rw[c22,List.getElem?_eq_getElem (by omega)]at f1
      rw[c9,List.getElem?_eq_getElem (by omega)]at f2
      rw[c23,List.getElem?_eq_getElem (by omega)]at f4
      obtain⟨k,e0,_,_⟩:=DataW.trod_int Tryz.underlying3 f0
      obtain⟨z,e1,_,wz⟩:=DataW.trod_int Tryz.underlying22 f1
      obtain⟨s,e2,_,_⟩:=DataW.trod_string Tryz.underlying9 f2
      obtain⟨o,e3,_,_⟩:=DataW.trod_int Tryz.underlying3 f3
      simp only[List.drop,List.take,List.cons.injEq,and_true]at e0 e1 e2 e3
      subst e0 e1 e2 e3
      cases m with
      |zero=>simp[DataW.trod]at f4
      |succ m=>
        have ih':=fun cs x=>ih m (by omega) cs x
        obtain⟨ks,sk,e4,hK,hn⟩:=open_Ps ih' f4
        simp only[List.drop,List.take,List.cons.injEq,and_true]at e4
        subst e4
        have hz:=wfu64 wz
        refine⟨.mk k z.toNat s.data.toList o ks,?_,?_⟩
        · rw[RepP]
          exact⟨_,by rw[Int.toNat_of_nonneg hz.1],hK⟩
        · rw[Nums]
          exact⟨by omega,hn⟩
end
end Go.Proofs.LL
