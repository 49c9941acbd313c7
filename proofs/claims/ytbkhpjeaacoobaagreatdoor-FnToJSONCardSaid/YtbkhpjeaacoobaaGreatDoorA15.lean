/- Contracts of functions and own laws. Conditions: those that each theorem states. -/
import Derived.Test.YtbkhpjeaacoobaaGreatDoorA14
set_option linter.all false
set_option maxRecDepth 20000
namespace Go.Proofs.LL
open Go Go.Proofs Go.RowKit
theorem bld_55:bldT Tryz.prog 55=some ([(0,1),(1,1)],[.int .i64 0,.int .i64 0]):=by kernel_rfl
def intF:List Frm:=[(204,1),(205,2),(206,4),(207,8)]
theorem intF_pos{u:Nat}{p:Frm}(hu:u<18446744073709551616)(h:p∈intF)(hf:fitb u p=true):PosE u (p.1::bigB u p.2):=by
  simp only[intF,List.mem_cons,List.not_mem_nil,or_false]at h
  unfold fitb at hf
  simp only[Bool.or_eq_true,decide_eq_true_eq]at hf
  rcases h with rfl|rfl|rfl|rfl
  · exact .inr (.inl ⟨0,by decide,by simpa using hf,rfl⟩)
  · exact .inr (.inl ⟨1,by decide,by simpa using hf,rfl⟩)
  · exact .inr (.inl ⟨2,by decide,by simpa using hf,rfl⟩)
  · exact .inr (.inl ⟨3,by decide,by simpa using hu,rfl⟩)
theorem intF_8{p:Frm}(h:p∈intF):p.2≤8:=by
  simp only[intF,List.mem_cons,List.not_mem_nil,or_false]at h
  rcases h with rfl|rfl|rfl|rfl<;>decide
theorem intF_m{u:Nat}:0<(intF.filter (fitb u)).length:=List.length_pos_iff.2 fun e=>by
  have:((207,8):Frm)∈intF.filter (fitb u):=List.mem_filter.2 ⟨by simp[intF],by simp[fitb]⟩
  rw[e]at this;cases this
theorem frm_lt{b:Nat}{l:List Frm}{w:World}(h:At w b 0 (l.flatMap fcell))(hp:0<l.length):b<w.heap.size:=lt_of_cell (by
  have h1:=h 0 (by rw[fcells_len];omega)
  rw[List.getElem?_eq_getElem (by rw[fcells_len];omega)]at h1
  exact h1)
theorem putPos_ok{fb u:Nat}{sg:Bool}{w:World}(hF:Fm w fb)(hu1:sg=true→u<9223372036854775808)(hu:u<18446744073709551616):
    Does Tryz.prog 18 [.pointer (some ⟨fb,0,none⟩),.int .u64 (u:Int),.bool sg] w fun r w'=>∃bs,PosE u bs∧IsB (fun b=>w.heap.size≤b) w' r bs∧Fm w' fb∧Evo (fun k=>k≠fb) w w':=by
  have hFl:=hF.lt
  have hml:=intF_m (u:=u)
  have hml2:(intF.filter (fitb u)).length≤4:=List.length_filter_le _ _
  have hmem:∀(j:Nat) (h:j<(intF.filter (fitb u)).length),(intF.filter (fitb u))[j]∈intF∧fitb u (intF.filter (fitb u))[j]=true:=fun j h=>List.mem_filter.1 (List.getElem_mem h)
  refine does1 Tryz.func18 rfl rfl rfl ?_
  have he:Evo (fun k=>k≠fb) w w:=Evo.refl w
  refine WC.seq<|WC.region ?_
  refine WL.q rfl (r_assign rfl) ?_
  refine WL.nil ?_
  refine WC.seq<|WC.region ?_
  refine WL.q rfl (r_move rfl) ?_
  refine WL.q rfl (r_cvInt cv_22_2 rfl) ?_
  refine WL.q rfl (r_assign rfl) ?_
  refine WL.nil ?_
  refine WC.seq<|WC.seq<|WC.region ?_
  refine WL.q rfl (r_move rfl) ?_
  refine WL.q rfl (r_move rfl) ?_
  refine WL.qc rfl rfl rfl rfl (fun hc=>r_move rfl) ?_
  refine WL.qc rfl rfl rfl rfl (fun hc=>r_lss (cnd_of hc) rfl) ?_
  refine WL.q rfl (r_and rfl rfl (fun h=>beq_iff_eq.2 h)) ?_
  refine WL.nil ?_
  refine WC.cond rfl ?_ ?_
  · intro hc
    exfalso
    simp only[Bool.and_eq_true,decide_eq_true_eq]at hc
    have:=hu1 hc.1
    have:=(wrap_u hu).2 this
    omega
  intro _
  refine WC.skip ?_
  refine WC.seq<|WC.region ?_
  refine WL.q rfl (r_assign rfl) ?_
  refine WL.nil ?_
  refine WC.seq<|WC.seq<|WC.region ?_
  refine WL.q rfl (r_move rfl) ?_
  refine WL.q rfl (r_lss rfl rfl) ?_
  refine WL.nil ?_
  refine WC.cond rfl ?_ ?_
  · intro hc
    have hc1:u<128:=by simp at hc;omega
    refine WC.region ?_
    refine WL.q rfl (r_move rfl) ?_
    refine WL.q rfl (r_move rfl) ?_
    refine WL.q rfl (r_cvIntE cv_22_5 rfl (wrap_byte (by omega))) ?_
    refine WL.l rfl (l_litO (vs:=[_]) slz_27 rfl rfl rfl rfl rfl) fun v1 w1 hh=>?_
    obtain⟨rfl,hOl,e1⟩:=hh
    have ns1:w.heap.size≤w1.heap.size:=e1.size
    replace he:=he.then e1
    have hs2:=he.size
    refine WL.l rfl (l_lit (vs:=[_]) slz_75 rfl (by first|rfl|(simp[Value.cells,Nat.beq_eq, *];done)) rfl rfl rfl) fun _ w2 hh=>?_
    obtain⟨rfl,hb2,e2⟩:=hh
    have ns2:w1.heap.size≤w2.heap.size:=e2.size
    replace hOl:=hOl.mono e2
    refine WL.l rfl (l_appBC (fun _=>True) (R:=fun b=>w.heap.size≤b) (ts:=[]) (fun k _=>by simp[Value.ownBlock]) slz_75 rfl rfl (Own.nil w.heap.size 27 1 _) trivial (hOl.toB (l:=[UInt8.ofNat u]) (A:=fun b=>w.heap.size≤b∧(Value.slice none 0 0).ownBlock≠some b) (fun b h1 h2=>⟨by omega,by simp[Value.ownBlock]⟩)) (Src.at slk_75 (flatc rfl hb2) rfl rfl) (by omega) (by simp[maxLen]) (by omega)) fun v3 w3 hh=>?_
    obtain⟨hO,hV,qnk,e3⟩:=hh
    have qol:=hO.lt
    have ns3:w2.heap.size≤w3.heap.size:=e3.size
    refine WL.q rfl (r_assign rfl) ?_
    refine WL.nil ?_
    refine WC.seq<|WC.seq<|WC.region ?_
    refine WL.q rfl (r_move rfl) ?_
    refine WL.q rfl (r_bld (cs:=[_,_]) bld_55 rfl rfl) ?_
    refine WL.q rfl (r_bld (cs:=[_,_]) bld_55 rfl rfl) ?_
    refine WL.q rfl (r_bld (cs:=[_,_]) bld_55 rfl rfl) ?_
    refine WL.q rfl (r_bld (cs:=[_,_]) bld_55 rfl rfl) ?_
    replace he:=(he.then e2).then e3
    have hs4:=he.size
    replace hb2:=hb2.mono e3
    have hx4b2:=hb2.lt
    refine WL.l rfl (l_lit (vs:=[_,_,_,_]) slz_79 rfl (by first|rfl|(simp[Value.cells,Nat.beq_eq, *];done)) rfl rfl rfl) fun _ w4 hh=>?_
    obtain⟨rfl,hb4,e4⟩:=hh
    have ns4:w3.heap.size≤w4.heap.size:=e4.size
    refine WL.l rfl (l_do body_28 rfl (sizesA_ok (A:=fun _=>True) (fs:=intF) (show At _ _ 0 (intF.flatMap fcell)from hb4.at) (by decide) (fun p=>intF_8) hu (by decide) hml)) fun v5 w5 hh=>?_
    obtain⟨bf,cf,rfl,qbf,hAll,e5⟩:=hh
    have ns5:w4.heap.size≤w5.heap.size:=e5.size
    refine WL.q rfl (r_len sl_79 rfl) ?_
    refine WL.q rfl (r_move rfl) ?_
    refine WL.nil ?_
    refine WC.block ?_
    have hbfl:=frm_lt hAll hml
    replace hF:=((((hF.mono e1).mono e2).mono e3).mono e4).mono e5
    replace hO:=(hO.mono e4).mono e5
    replace hV:=(hV.mono e4).mono e5
    replace he:=(he.then e4).then e5
    refine WC.loop2 (ι:=(Nat×Value)) [(0,_),(1,_),(6,_),(77,_),(78,_)] (fun i=>[(11,i.2),(79,.int .i64 (i.1:Int))]) (fun i wi=>(∃ts vs,Own w.heap.size 27 1 wi i.2 ts.length vs∧Bs (fun b=>w.heap.size≤b∧i.2.ownBlock≠some b) wi vs ts∧vs.length=ts.length∧ts.length≤i.1+1∧i.1≤ts.length∧(∀t∈ts,PosE u t)∧i.2.ownBlock≠some bf)∧i.1≤(intF.filter (fitb u)).length∧Fm wi fb∧Evo (fun b=>b<w.heap.size∨b=bf) w5 wi) (fun i=>(intF.filter (fitb u)).length-i.1) (0,v3) (.cons rfl (.cons rfl (.cons rfl (.cons rfl (.cons rfl .nil))))) (.cons rfl (.cons rfl .nil)) (⟨⟨[[UInt8.ofNat u]],_,hO,hV,rfl,by simp,by simp,fun t ht=> .inl ⟨hc1,by simpa using ht⟩,fun e=>by have:=qol _ e;omega⟩,by omega,hF,Evo.refl _⟩) ?_
    intro i wi1 hh;obtain⟨⟨ts,vs,hO,hV,vl,tl,tm,qP,qne⟩,ni,hF,hE⟩:=hh
    obtain⟨i,sv⟩:=i
    dsimp only at hO hV tl tm ni qne
    have nwi:=hE.size
    have hOl2:=hO.low'
    rcases Nat.lt_or_ge i (intF.filter (fitb u)).length with qi|qi
    replace hAll:=hAll.mono hE
    · have hfr:=hAll.form qi
      have hp8:=intF_8 (hmem i qi).1
      have hOw:=Since.mk (Evo.refl (A:=fun b=>b<wi1.heap.size) wi1)
      refine WC.seq<|WC.region ?_
      refine WL.q rfl (r_cmp (r_lss rfl rfl) (decide_eq_true (by(omega)))) ?_
      refine WL.nil ?_
      refine WC.seq<|WC.condT rfl ?_
      refine WC.skip ?_
      refine WC.seq<|WC.block ?_
      refine WC.seq<|WC.region ?_
      refine WL.q rfl (r_idx sl_79 rfl rfl rfl (by first|omega|(simp;done)|(simp;omega))) ?_
      refine WL.q rfl (r_loadAgg agg_55 rfl (Ext.refl _) hfr (hn:=rfl)) ?_
      replace he:=he.then hE
      have hs6:=he.size
      refine WL.l rfl (l_alloc zt_55 rfl) fun _ w6 hh=>?_
      obtain⟨rfl,hb6,e6⟩:=hh
      have nx6:=hb6.lt
      have ns6:wi1.heap.size≤w6.heap.size:=e6.size
      refine WL.l0 (l_storeW sz_55 rfl rfl (by first|rfl|assumption|(simp[*];done)|simp[Value.oneCell', *]) (by first|rfl|simp[*]) hb6 (by first|rfl|simp[*])) fun _ w7 hh=>?_
      obtain⟨hb6,e7,hz7⟩:=hh
      have ns7:w6.heap.size≤w7.heap.size:=e7.size
      refine WL.nil ?_
      refine WC.region ?_
      refine WL.q rfl (r_move rfl) ?_
      refine WL.q rfl (r_loadAgg agg_55 rfl (Ext.refl _) hb6.at (hn:=by first|rfl|assumption)) ?_
      refine WL.q rfl (r_move rfl) ?_
      refine WL.l rfl (l_do body_19 rfl (headed_ok hp8 hu)) fun v8 w8 hh=>?_
      obtain⟨hOx,e8⟩:=hh
      obtain⟨q8,c8,hq8,_,_⟩:=hOx.form
      subst hq8
      have ns8:w7.heap.size≤w8.heap.size:=e8.size
      replace he:=(he.then (e6.then e7)).then e8
      have hs9:=he.size
      replace hb6:=hb6.mono e8
      have hx9b6:=hb6.lt
      refine WL.l rfl (l_lit (vs:=[_]) slz_75 rfl (by first|rfl|(simp[Value.cells,Nat.beq_eq, *];done)) rfl rfl rfl) fun _ w9 hh=>?_
      obtain⟨rfl,hb9,e9⟩:=hh
      have ns9:w8.heap.size≤w9.heap.size:=e9.size
      replace hOw:=((hOw.mono (e6.then e7)).mono e8).mono e9
      replace hOx:=hOx.mono e9
      refine WL.l rfl (l_appBC (fun k=>k<w.heap.size∨k=bf) (R:=fun b=>w.heap.size≤b) (fun k hk e=>by rcases hk with hk|hk;have:=hOl2 k e;omega;exact qne (hk▸e)) slz_75 rfl rfl (hO.mono hOw.evo) (hV.mono hOw.evo (fun b hb _=>hb)) (hOx.toB (l:=(intF.filter (fitb u))[i].1::bigB u (intF.filter (fitb u))[i].2) (fun b h1 h2=>⟨by omega,fun e=>by have:=hOl2 b e;omega⟩)) (Src.at slk_75 (flatc hOx.one hb9) rfl (by simp[hOx.one])) (by omega) (by simp only[maxLen];omega) (by omega)) fun v10 w10 hh=>?_
      obtain⟨hO,hV,qnk,e10⟩:=hh
      have ns10:w9.heap.size≤w10.heap.size:=e10.size
      refine WL.q rfl (r_assign rfl) ?_
      refine WL.nil ?_
      refine WC.region ?_
      refine WL.q rfl (r_addi rfl rfl rfl (by omega) (by omega)) ?_
      refine WL.q rfl (r_move rfl) ?_
      refine WL.nil ?_
      replace hF:=(((hF.mono (e6.then e7)).mono e8).mono e9).mono e10
      exact⟨(i+1,v10),(.cons rfl (.cons rfl (.cons rfl (.cons rfl (.cons rfl .nil))))),(.cons rfl (.cons (lk_int rfl (by omega)) .nil)),⟨⟨_,_,hO.cast (by simp) rfl,hV,by simp[vl],by simp;omega,by simp;omega,fun t ht=>by rcases List.mem_append.1 ht with h|h;exact qP t h;rw[List.mem_singleton.1 h];exact intF_pos hu (hmem i qi).1 (hmem i qi).2,qnk _ (by omega) qne⟩,qi,hF,(((((hE.then (e6.then e7)).then e8).then e9).then e10))⟩,(by dsimp only;omega)⟩
    · have hi4:i=(intF.filter (fitb u)).length:=by omega
      have q5:0<ts.length:=by omega
      have q6:ts.length≤5:=by omega
      clear tl tm qne
      have qow:=hO.lt
      refine WC.seq<|WC.region ?_
      refine WL.q rfl (r_cmp (r_lss rfl rfl) (decide_eq_false (by(omega)))) ?_
      refine WL.nil ?_
      refine WC.seq<|WC.condF rfl ?_
      refine WC.exit ?_
      refine WC.seq<|WC.seq<|WC.region ?_
      replace he:=he.then hE
      have hs6:=he.size
      refine WL.l rfl (l_lit (vs:=[_,_,_,_]) slz_76 rfl (by first|rfl|(simp[Value.cells,Nat.beq_eq, *];done)) rfl rfl rfl) fun _ w6 hh=>?_
      obtain⟨rfl,hb6,e6⟩:=hh
      have ns6:wi1.heap.size≤w6.heap.size:=e6.size
      refine WL.q rfl (r_len sl_76 rfl) ?_
      refine WL.q rfl (r_move rfl) ?_
      refine WL.nil ?_
      refine WC.block ?_
      obtain⟨sb,esb⟩:∃m,m=wi1.heap.size:=⟨_,rfl⟩
      have hsl:=hb6.lt
      replace hF:=hF.mono e6
      replace hO:=hO.mono e6
      replace hV:=hV.mono e6
      replace hAll:=(hAll.mono hE).mono e6
      replace he:=he.then e6
      refine WC.loop2 (ι:=(Nat×Value)) [(0,_),(1,_),(6,_),(77,_),(78,_),(79,_),(90,_),(91,_)] (fun i=>[(11,i.2),(92,.int .i64 (i.1:Int))]) (fun i wi=>(∃ts vs,Own w.heap.size 27 1 wi i.2 ts.length vs∧Bs (fun b=>w.heap.size≤b∧i.2.ownBlock≠some b) wi vs ts∧vs.length=ts.length∧ts.length≤i.1+5∧0<ts.length∧(∀t∈ts,PosE u t)∧i.2.ownBlock≠some sb)∧i.1≤4∧Fm wi fb∧Evo (fun b=>b<w.heap.size∨b=sb) w6 wi) (fun i=>4-i.1) (0,sv) (.cons rfl (.cons rfl (.cons rfl (.cons rfl (.cons rfl (.cons rfl (.cons rfl (.cons rfl .nil)))))))) (.cons rfl (.cons rfl .nil)) (⟨⟨ts,vs,hO,hV,vl,by omega,q5,qP,fun e=>by have:=qow _ e;omega⟩,by omega,hF,Evo.refl _⟩) ?_
      intro i wi2 hh;obtain⟨⟨ts,vs,hO,hV,vl,tl,t0,qP,qne⟩,ni,hF,hE⟩:=hh
      obtain⟨i,sv⟩:=i
      dsimp only at hO hV tl ni qne
      have nwi:=hE.size
      have hOl2:=hO.low'
      rcases Nat.lt_or_ge i 4 with qi|qi
      · have hpw:=pow2_le qi
        have hlm:=pos_lim qi
        have hbb:=bigB_length u (2^i)
        rcases Decidable.em (u<2^(8 * 2^i-1))with qx|qx
        · have hOw:=Since.mk (Evo.refl (A:=fun b=>b<wi2.heap.size) wi2)
          refine WC.seq<|WC.region ?_
          refine WL.q rfl (r_cmp (r_lss rfl rfl) (decide_eq_true (by(omega)))) ?_
          refine WL.nil ?_
          refine WC.seq<|WC.condT rfl ?_
          refine WC.skip ?_
          refine WC.seq<|WC.block ?_
          refine WC.seq<|WC.region ?_
          refine WL.q rfl (r_move rfl) ?_
          refine WL.q rfl (r_idx1 sl_76 rfl rfl rfl (by first|omega|(simp;done)|(simp;omega))) ?_
          replace hb6:=hb6.mono hE
          refine WL.q rfl (r_load one_3 rfl (Ext.refl _) (pow2_4 hb6 qi)) ?_
          refine WL.q rfl (r_assign rfl) ?_
          refine WL.q rfl (r_assign rfl) ?_
          refine WL.nil ?_
          refine WC.seq<|WC.region ?_
          refine WL.q rfl (r_move rfl) ?_
          refine WL.q rfl (r_move rfl) ?_
          refine WL.q rfl (r_muli (c:=8 * ((2^i:Nat):Int)) rfl rfl rfl (by omega) (by omega)) ?_
          refine WL.q rfl (r_subi rfl rfl rfl (by omega) (by omega)) ?_
          refine WL.q rfl (r_as (r_shl rfl rfl (by omega)) hlm) ?_
          refine WL.q rfl (r_cmp (r_lss rfl rfl) (decide_eq_true (by(omega)))) ?_
          refine WL.nil ?_
          refine WC.condT rfl ?_
          refine WC.region ?_
          refine WL.q rfl (r_move rfl) ?_
          refine WL.q rfl (r_move rfl) ?_
          refine WL.q rfl (r_addi rfl rfl (show(208:Int)+(i:Int)=((208+i:Nat):Int) by omega) (by omega) (by omega)) ?_
          refine WL.q rfl (r_cvIntE cv_3_5 rfl (wrap_byte (by omega))) ?_
          refine WL.l rfl (l_litO (vs:=[_]) slz_27 rfl rfl rfl rfl rfl) fun v7 w7 hh=>?_
          obtain⟨rfl,hOl,e7⟩:=hh
          have ns7:wi2.heap.size≤w7.heap.size:=e7.size
          refine WL.q rfl (r_move rfl) ?_
          refine WL.q rfl (r_move rfl) ?_
          refine WL.l rfl (l_do body_26 rfl (bigN_ok (k:=2^i) (by omega))) fun v8 w8 hh=>?_
          obtain⟨hOb,e8⟩:=hh
          obtain⟨q0,c0,hq0,_,_⟩:=hOb.form
          subst hq0
          have ns8:w7.heap.size≤w8.heap.size:=e8.size
          replace hOl:=hOl.mono e8
          refine WL.l rfl (l_app slz_27 rfl rfl hOl (Src.isB slk_27 (hOb.toB (A:=fun _=>True))) (by omega) (by simp only[maxLen];omega) (by omega)) fun v9 w9 hh=>?_
          obtain⟨hOx,e9⟩:=hh
          obtain⟨q9,c9,hq9,_,_⟩:=hOx.form
          subst hq9
          have ns9:w8.heap.size≤w9.heap.size:=e9.size
          replace he:=(((he.then hE).then e7).then e8).then e9
          have hs10:=he.size
          replace hb6:=((hb6.mono e7).mono e8).mono e9
          have hx10b6:=hb6.lt
          refine WL.l rfl (l_lit (vs:=[_]) slz_75 rfl (by first|rfl|(simp[Value.cells,Nat.beq_eq, *];done)) rfl rfl rfl) fun _ w10 hh=>?_
          obtain⟨rfl,hb10,e10⟩:=hh
          have ns10:w9.heap.size≤w10.heap.size:=e10.size
          replace hOw:=(((hOw.mono e7).mono e8).mono e9).mono e10
          replace hOx:=hOx.mono e10
          refine WL.l rfl (l_appBC (fun k=>k<w.heap.size∨k=sb) (R:=fun b=>w.heap.size≤b) (l:=UInt8.ofNat (208+i)::bigB u (2^i)) (fun k hk e=>by rcases hk with hk|hk;have:=hOl2 k e;omega;exact qne (hk▸e)) slz_75 rfl rfl (hO.mono hOw.evo) (hV.mono hOw.evo (fun b hb _=>hb)) (hOx.toB (l:=UInt8.ofNat (208+i)::bigB u (2^i)) (fun b h1 h2=>⟨by omega,fun e=>by have:=hOl2 b e;omega⟩)) (Src.at slk_75 (flatc hOx.one hb10) rfl (by simp[hOx.one])) (by omega) (by simp only[maxLen];omega) (by omega)) fun v11 w11 hh=>?_
          obtain⟨hO,hV,qnk,e11⟩:=hh
          have ns11:w10.heap.size≤w11.heap.size:=e11.size
          refine WL.q rfl (r_assign rfl) ?_
          refine WL.nil ?_
          refine WC.region ?_
          refine WL.q rfl (r_addi rfl rfl rfl (by omega) (by omega)) ?_
          refine WL.q rfl (r_move rfl) ?_
          refine WL.nil ?_
          replace hF:=((((hF.mono e7).mono e8).mono e9).mono e10).mono e11
          exact⟨(i+1,v11),(.cons rfl (.cons rfl (.cons rfl (.cons rfl (.cons rfl (.cons rfl (.cons rfl (.cons rfl .nil)))))))),(.cons rfl (.cons (lk_int rfl (by omega)) .nil)),⟨⟨_,_,hO.cast (by simp) rfl,hV,by simp[vl],by simp;omega,by simp,fun t ht=>by rcases List.mem_append.1 ht with h|h;exact qP t h;rw[List.mem_singleton.1 h];exact .inr (.inr ⟨i,qi,qx,rfl⟩),qnk _ (by omega) qne⟩,qi,hF,((((((hE.then e7).then e8).then e9).then e10).then e11))⟩,(by dsimp only;omega)⟩
        · skip
          refine WC.seq<|WC.region ?_
          refine WL.q rfl (r_cmp (r_lss rfl rfl) (decide_eq_true (by(omega)))) ?_
          refine WL.nil ?_
          refine WC.seq<|WC.condT rfl ?_
          refine WC.skip ?_
          refine WC.seq<|WC.block ?_
          refine WC.seq<|WC.region ?_
          refine WL.q rfl (r_move rfl) ?_
          refine WL.q rfl (r_idx1 sl_76 rfl rfl rfl (by first|omega|(simp;done)|(simp;omega))) ?_
          replace hb6:=hb6.mono hE
          refine WL.q rfl (r_load one_3 rfl (Ext.refl _) (pow2_4 hb6 qi)) ?_
          refine WL.q rfl (r_assign rfl) ?_
          refine WL.q rfl (r_assign rfl) ?_
          refine WL.nil ?_
          refine WC.seq<|WC.region ?_
          refine WL.q rfl (r_move rfl) ?_
          refine WL.q rfl (r_move rfl) ?_
          refine WL.q rfl (r_muli (c:=8 * ((2^i:Nat):Int)) rfl rfl rfl (by omega) (by omega)) ?_
          refine WL.q rfl (r_subi rfl rfl rfl (by omega) (by omega)) ?_
          refine WL.q rfl (r_as (r_shl rfl rfl (by omega)) hlm) ?_
          refine WL.q rfl (r_cmp (r_lss rfl rfl) (decide_eq_false (by(omega)))) ?_
          refine WL.nil ?_
          refine WC.condF rfl ?_
          refine WC.skip ?_
          refine WC.region ?_
          refine WL.q rfl (r_addi rfl rfl rfl (by omega) (by omega)) ?_
          refine WL.q rfl (r_move rfl) ?_
          refine WL.nil ?_
          exact⟨(i+1,sv),(.cons rfl (.cons rfl (.cons rfl (.cons rfl (.cons rfl (.cons rfl (.cons rfl (.cons rfl .nil)))))))),(.cons rfl (.cons (lk_int rfl (by omega)) .nil)),⟨⟨ts,vs,hO,hV,vl,by dsimp only;omega,t0,qP,qne⟩,qi,hF,(hE)⟩,(by dsimp only;omega)⟩
      · have hi4:i=4:=by omega
        obtain⟨bq,cq,rfl,nbq,nbq2,hAt⟩:=own_pick hO hV vl t0
        have hVV:=fun(j:Nat) (hj:j<ts.length)=>Bs.get hj hV
        refine WC.seq<|WC.region ?_
        refine WL.q rfl (r_cmp (r_lss rfl rfl) (decide_eq_false (by(omega)))) ?_
        refine WL.nil ?_
        refine WC.seq<|WC.condF rfl ?_
        refine WC.exit ?_
        refine WC.seq<|WC.region ?_
        refine WL.q rfl (r_move rfl) ?_
        refine WL.q rfl (r_move rfl) ?_
        refine WL.q rfl (r_move rfl) ?_
        refine WL.q rfl (r_len sl_75 rfl) ?_
        refine WL.l rfl (l_do body_27 rfl (pick_ok (n:=ts.length) hF (by omega) (by omega))) fun v7 w7 hh=>?_
        obtain⟨⟨ki,qki,rfl⟩,hF,e7⟩:=hh
        obtain⟨xv,qxv,qxI⟩:=hVV ki qki
        have hxJ:=(qxI.weaken (B:=fun b=>w.heap.size≤b) fun b _ h=>h.1).mono e7
        have ns7:wi2.heap.size≤w7.heap.size:=e7.size
        refine WL.q rfl (r_idx1 sl_75 rfl rfl rfl (by first|omega|(simp;done)|(simp;omega))) ?_
        replace hAt:=hAt.mono e7
        refine WL.q rfl (r_load one_27 rfl (Ext.refl _) ((hAt ki (by omega)).trans qxv)) ?_
        refine WL.q rfl (r_assign rfl) ?_
        refine WL.nil ?_
        refine WC.ret ?_
        replace he:=(he.then hE).then e7
        exact fin1 rfl ⟨_,qP _ (List.getElem_mem qki),hxJ,hF,he⟩
  · intro hc
    refine WC.skip ?_
    refine WC.seq<|WC.seq<|WC.region ?_
    refine WL.q rfl (r_move rfl) ?_
    refine WL.q rfl (r_bld (cs:=[_,_]) bld_55 rfl rfl) ?_
    refine WL.q rfl (r_bld (cs:=[_,_]) bld_55 rfl rfl) ?_
    refine WL.q rfl (r_bld (cs:=[_,_]) bld_55 rfl rfl) ?_
    refine WL.q rfl (r_bld (cs:=[_,_]) bld_55 rfl rfl) ?_
    have hs1:=he.size
    refine WL.l rfl (l_lit (vs:=[_,_,_,_]) slz_79 rfl (by first|rfl|(simp[Value.cells,Nat.beq_eq, *];done)) rfl rfl rfl) fun _ w1 hh=>?_
    obtain⟨rfl,hb1,e1⟩:=hh
    have ns1:w.heap.size≤w1.heap.size:=e1.size
    refine WL.l rfl (l_do body_28 rfl (sizesA_ok (A:=fun _=>True) (fs:=intF) (show At _ _ 0 (intF.flatMap fcell)from hb1.at) (by decide) (fun p=>intF_8) hu (by decide) hml)) fun v2 w2 hh=>?_
    obtain⟨bf,cf,rfl,qbf,hAll,e2⟩:=hh
    have ns2:w1.heap.size≤w2.heap.size:=e2.size
    refine WL.q rfl (r_len sl_79 rfl) ?_
    refine WL.q rfl (r_move rfl) ?_
    refine WL.nil ?_
    refine WC.block ?_
    have hbfl:=frm_lt hAll hml
    replace hF:=(hF.mono e1).mono e2
    replace he:=(he.then e1).then e2
    refine WC.loop2 (ι:=(Nat×Value)) [(0,_),(1,_),(6,_),(77,_),(78,_)] (fun i=>[(11,i.2),(79,.int .i64 (i.1:Int))]) (fun i wi=>(∃ts vs,Own w.heap.size 27 1 wi i.2 ts.length vs∧Bs (fun b=>w.heap.size≤b∧i.2.ownBlock≠some b) wi vs ts∧vs.length=ts.length∧ts.length≤i.1+1∧i.1≤ts.length∧(∀t∈ts,PosE u t)∧i.2.ownBlock≠some bf)∧i.1≤(intF.filter (fitb u)).length∧Fm wi fb∧Evo (fun b=>b<w.heap.size∨b=bf) w2 wi) (fun i=>(intF.filter (fitb u)).length-i.1) (0,.slice none 0 0) (.cons rfl (.cons rfl (.cons rfl (.cons rfl (.cons rfl .nil))))) (.cons rfl (.cons rfl .nil)) (⟨⟨[],[],Own.nil _ _ _ _,trivial,rfl,by simp,by simp,fun t ht=>(by cases ht),by simp[Value.ownBlock]⟩,by omega,hF,Evo.refl _⟩) ?_
    intro i wi1 hh;obtain⟨⟨ts,vs,hO,hV,vl,tl,tm,qP,qne⟩,ni,hF,hE⟩:=hh
    obtain⟨i,sv⟩:=i
    dsimp only at hO hV tl tm ni qne
    have nwi:=hE.size
    have hOl2:=hO.low'
    rcases Nat.lt_or_ge i (intF.filter (fitb u)).length with qi|qi
    replace hAll:=hAll.mono hE
    · have hfr:=hAll.form qi
      have hp8:=intF_8 (hmem i qi).1
      have hOw:=Since.mk (Evo.refl (A:=fun b=>b<wi1.heap.size) wi1)
      refine WC.seq<|WC.region ?_
      refine WL.q rfl (r_cmp (r_lss rfl rfl) (decide_eq_true (by(omega)))) ?_
      refine WL.nil ?_
      refine WC.seq<|WC.condT rfl ?_
      refine WC.skip ?_
      refine WC.seq<|WC.block ?_
      refine WC.seq<|WC.region ?_
      refine WL.q rfl (r_idx sl_79 rfl rfl rfl (by first|omega|(simp;done)|(simp;omega))) ?_
      refine WL.q rfl (r_loadAgg agg_55 rfl (Ext.refl _) hfr (hn:=rfl)) ?_
      replace he:=he.then hE
      have hs3:=he.size
      refine WL.l rfl (l_alloc zt_55 rfl) fun _ w3 hh=>?_
      obtain⟨rfl,hb3,e3⟩:=hh
      have nx3:=hb3.lt
      have ns3:wi1.heap.size≤w3.heap.size:=e3.size
      refine WL.l0 (l_storeW sz_55 rfl rfl (by first|rfl|assumption|(simp[*];done)|simp[Value.oneCell', *]) (by first|rfl|simp[*]) hb3 (by first|rfl|simp[*])) fun _ w4 hh=>?_
      obtain⟨hb3,e4,hz4⟩:=hh
      have ns4:w3.heap.size≤w4.heap.size:=e4.size
      refine WL.nil ?_
      refine WC.region ?_
      refine WL.q rfl (r_move rfl) ?_
      refine WL.q rfl (r_loadAgg agg_55 rfl (Ext.refl _) hb3.at (hn:=by first|rfl|assumption)) ?_
      refine WL.q rfl (r_move rfl) ?_
      refine WL.l rfl (l_do body_19 rfl (headed_ok hp8 hu)) fun v5 w5 hh=>?_
      obtain⟨hOx,e5⟩:=hh
      obtain⟨q5,c5,hq5,_,_⟩:=hOx.form
      subst hq5
      have ns5:w4.heap.size≤w5.heap.size:=e5.size
      replace he:=(he.then (e3.then e4)).then e5
      have hs6:=he.size
      replace hb3:=hb3.mono e5
      have hx6b3:=hb3.lt
      refine WL.l rfl (l_lit (vs:=[_]) slz_75 rfl (by first|rfl|(simp[Value.cells,Nat.beq_eq, *];done)) rfl rfl rfl) fun _ w6 hh=>?_
      obtain⟨rfl,hb6,e6⟩:=hh
      have ns6:w5.heap.size≤w6.heap.size:=e6.size
      replace hOw:=((hOw.mono (e3.then e4)).mono e5).mono e6
      replace hOx:=hOx.mono e6
      refine WL.l rfl (l_appBC (fun k=>k<w.heap.size∨k=bf) (R:=fun b=>w.heap.size≤b) (fun k hk e=>by rcases hk with hk|hk;have:=hOl2 k e;omega;exact qne (hk▸e)) slz_75 rfl rfl (hO.mono hOw.evo) (hV.mono hOw.evo (fun b hb _=>hb)) (hOx.toB (l:=(intF.filter (fitb u))[i].1::bigB u (intF.filter (fitb u))[i].2) (fun b h1 h2=>⟨by omega,fun e=>by have:=hOl2 b e;omega⟩)) (Src.at slk_75 (flatc hOx.one hb6) rfl (by simp[hOx.one])) (by omega) (by simp only[maxLen];omega) (by omega)) fun v7 w7 hh=>?_
      obtain⟨hO,hV,qnk,e7⟩:=hh
      have ns7:w6.heap.size≤w7.heap.size:=e7.size
      refine WL.q rfl (r_assign rfl) ?_
      refine WL.nil ?_
      refine WC.region ?_
      refine WL.q rfl (r_addi rfl rfl rfl (by omega) (by omega)) ?_
      refine WL.q rfl (r_move rfl) ?_
      refine WL.nil ?_
      replace hF:=(((hF.mono (e3.then e4)).mono e5).mono e6).mono e7
      exact⟨(i+1,v7),(.cons rfl (.cons rfl (.cons rfl (.cons rfl (.cons rfl .nil))))),(.cons rfl (.cons (lk_int rfl (by omega)) .nil)),⟨⟨_,_,hO.cast (by simp) rfl,hV,by simp[vl],by simp;omega,by simp;omega,fun t ht=>by rcases List.mem_append.1 ht with h|h;exact qP t h;rw[List.mem_singleton.1 h];exact intF_pos hu (hmem i qi).1 (hmem i qi).2,qnk _ (by omega) qne⟩,qi,hF,(((((hE.then (e3.then e4)).then e5).then e6).then e7))⟩,(by dsimp only;omega)⟩
    · have hi4:i=(intF.filter (fitb u)).length:=by omega
      have q5:0<ts.length:=by omega
      have q6:ts.length≤5:=by omega
      clear tl tm qne
      have qow:=hO.lt
      refine WC.seq<|WC.region ?_
      refine WL.q rfl (r_cmp (r_lss rfl rfl) (decide_eq_false (by(omega)))) ?_
      refine WL.nil ?_
      refine WC.seq<|WC.condF rfl ?_
      refine WC.exit ?_
      refine WC.seq<|WC.seq<|WC.region ?_
      replace he:=he.then hE
      have hs3:=he.size
      refine WL.l rfl (l_lit (vs:=[_,_,_,_]) slz_76 rfl (by first|rfl|(simp[Value.cells,Nat.beq_eq, *];done)) rfl rfl rfl) fun _ w3 hh=>?_
      obtain⟨rfl,hb3,e3⟩:=hh
      have ns3:wi1.heap.size≤w3.heap.size:=e3.size
      refine WL.q rfl (r_len sl_76 rfl) ?_
      refine WL.q rfl (r_move rfl) ?_
      refine WL.nil ?_
      refine WC.block ?_
      obtain⟨sb,esb⟩:∃m,m=wi1.heap.size:=⟨_,rfl⟩
      have hsl:=hb3.lt
      replace hF:=hF.mono e3
      replace hAll:=(hAll.mono hE).mono e3
      replace hO:=hO.mono e3
      replace hV:=hV.mono e3
      replace he:=he.then e3
      refine WC.loop2 (ι:=(Nat×Value)) [(0,_),(1,_),(6,_),(77,_),(78,_),(79,_),(90,_),(91,_)] (fun i=>[(11,i.2),(92,.int .i64 (i.1:Int))]) (fun i wi=>(∃ts vs,Own w.heap.size 27 1 wi i.2 ts.length vs∧Bs (fun b=>w.heap.size≤b∧i.2.ownBlock≠some b) wi vs ts∧vs.length=ts.length∧ts.length≤i.1+5∧0<ts.length∧(∀t∈ts,PosE u t)∧i.2.ownBlock≠some sb)∧i.1≤4∧Fm wi fb∧Evo (fun b=>b<w.heap.size∨b=sb) w3 wi) (fun i=>4-i.1) (0,sv) (.cons rfl (.cons rfl (.cons rfl (.cons rfl (.cons rfl (.cons rfl (.cons rfl (.cons rfl .nil)))))))) (.cons rfl (.cons rfl .nil)) (⟨⟨ts,vs,hO,hV,vl,by omega,q5,qP,fun e=>by have:=qow _ e;omega⟩,by omega,hF,Evo.refl _⟩) ?_
      intro i wi2 hh;obtain⟨⟨ts,vs,hO,hV,vl,tl,t0,qP,qne⟩,ni,hF,hE⟩:=hh
      obtain⟨i,sv⟩:=i
      dsimp only at hO hV tl ni qne
      have nwi:=hE.size
      have hOl2:=hO.low'
      rcases Nat.lt_or_ge i 4 with qi|qi
      · have hpw:=pow2_le qi
        have hlm:=pos_lim qi
        have hbb:=bigB_length u (2^i)
        rcases Decidable.em (u<2^(8 * 2^i-1))with qx|qx
        · have hOw:=Since.mk (Evo.refl (A:=fun b=>b<wi2.heap.size) wi2)
          refine WC.seq<|WC.region ?_
          refine WL.q rfl (r_cmp (r_lss rfl rfl) (decide_eq_true (by(omega)))) ?_
          refine WL.nil ?_
          refine WC.seq<|WC.condT rfl ?_
          refine WC.skip ?_
          refine WC.seq<|WC.block ?_
          refine WC.seq<|WC.region ?_
          refine WL.q rfl (r_move rfl) ?_
          refine WL.q rfl (r_idx1 sl_76 rfl rfl rfl (by first|omega|(simp;done)|(simp;omega))) ?_
          replace hb3:=hb3.mono hE
          refine WL.q rfl (r_load one_3 rfl (Ext.refl _) (pow2_4 hb3 qi)) ?_
          refine WL.q rfl (r_assign rfl) ?_
          refine WL.q rfl (r_assign rfl) ?_
          refine WL.nil ?_
          refine WC.seq<|WC.region ?_
          refine WL.q rfl (r_move rfl) ?_
          refine WL.q rfl (r_move rfl) ?_
          refine WL.q rfl (r_muli (c:=8 * ((2^i:Nat):Int)) rfl rfl rfl (by omega) (by omega)) ?_
          refine WL.q rfl (r_subi rfl rfl rfl (by omega) (by omega)) ?_
          refine WL.q rfl (r_as (r_shl rfl rfl (by omega)) hlm) ?_
          refine WL.q rfl (r_cmp (r_lss rfl rfl) (decide_eq_true (by(omega)))) ?_
          refine WL.nil ?_
          refine WC.condT rfl ?_
          refine WC.region ?_
          refine WL.q rfl (r_move rfl) ?_
          refine WL.q rfl (r_move rfl) ?_
          refine WL.q rfl (r_addi rfl rfl (show(208:Int)+(i:Int)=((208+i:Nat):Int) by omega) (by omega) (by omega)) ?_
          refine WL.q rfl (r_cvIntE cv_3_5 rfl (wrap_byte (by omega))) ?_
          refine WL.l rfl (l_litO (vs:=[_]) slz_27 rfl rfl rfl rfl rfl) fun v4 w4 hh=>?_
          obtain⟨rfl,hOl,e4⟩:=hh
          have ns4:wi2.heap.size≤w4.heap.size:=e4.size
          refine WL.q rfl (r_move rfl) ?_
          refine WL.q rfl (r_move rfl) ?_
          refine WL.l rfl (l_do body_26 rfl (bigN_ok (k:=2^i) (by omega))) fun v5 w5 hh=>?_
          obtain⟨hOb,e5⟩:=hh
          obtain⟨q0,c0,hq0,_,_⟩:=hOb.form
          subst hq0
          have ns5:w4.heap.size≤w5.heap.size:=e5.size
          replace hOl:=hOl.mono e5
          refine WL.l rfl (l_app slz_27 rfl rfl hOl (Src.isB slk_27 (hOb.toB (A:=fun _=>True))) (by omega) (by simp only[maxLen];omega) (by omega)) fun v6 w6 hh=>?_
          obtain⟨hOx,e6⟩:=hh
          obtain⟨q6,c6,hq6,_,_⟩:=hOx.form
          subst hq6
          have ns6:w5.heap.size≤w6.heap.size:=e6.size
          replace he:=(((he.then hE).then e4).then e5).then e6
          have hs7:=he.size
          replace hb3:=((hb3.mono e4).mono e5).mono e6
          have hx7b3:=hb3.lt
          refine WL.l rfl (l_lit (vs:=[_]) slz_75 rfl (by first|rfl|(simp[Value.cells,Nat.beq_eq, *];done)) rfl rfl rfl) fun _ w7 hh=>?_
          obtain⟨rfl,hb7,e7⟩:=hh
          have ns7:w6.heap.size≤w7.heap.size:=e7.size
          replace hOw:=(((hOw.mono e4).mono e5).mono e6).mono e7
          replace hOx:=hOx.mono e7
          refine WL.l rfl (l_appBC (fun k=>k<w.heap.size∨k=sb) (R:=fun b=>w.heap.size≤b) (l:=UInt8.ofNat (208+i)::bigB u (2^i)) (fun k hk e=>by rcases hk with hk|hk;have:=hOl2 k e;omega;exact qne (hk▸e)) slz_75 rfl rfl (hO.mono hOw.evo) (hV.mono hOw.evo (fun b hb _=>hb)) (hOx.toB (l:=UInt8.ofNat (208+i)::bigB u (2^i)) (fun b h1 h2=>⟨by omega,fun e=>by have:=hOl2 b e;omega⟩)) (Src.at slk_75 (flatc hOx.one hb7) rfl (by simp[hOx.one])) (by omega) (by simp only[maxLen];omega) (by omega)) fun v8 w8 hh=>?_
          obtain⟨hO,hV,qnk,e8⟩:=hh
          have ns8:w7.heap.size≤w8.heap.size:=e8.size
          refine WL.q rfl (r_assign rfl) ?_
          refine WL.nil ?_
          refine WC.region ?_
          refine WL.q rfl (r_addi rfl rfl rfl (by omega) (by omega)) ?_
          refine WL.q rfl (r_move rfl) ?_
          refine WL.nil ?_
          replace hF:=((((hF.mono e4).mono e5).mono e6).mono e7).mono e8
          exact⟨(i+1,v8),(.cons rfl (.cons rfl (.cons rfl (.cons rfl (.cons rfl (.cons rfl (.cons rfl (.cons rfl .nil)))))))),(.cons rfl (.cons (lk_int rfl (by omega)) .nil)),⟨⟨_,_,hO.cast (by simp) rfl,hV,by simp[vl],by simp;omega,by simp,fun t ht=>by rcases List.mem_append.1 ht with h|h;exact qP t h;rw[List.mem_singleton.1 h];exact .inr (.inr ⟨i,qi,qx,rfl⟩),qnk _ (by omega) qne⟩,qi,hF,((((((hE.then e4).then e5).then e6).then e7).then e8))⟩,(by dsimp only;omega)⟩
        · skip
          refine WC.seq<|WC.region ?_
          refine WL.q rfl (r_cmp (r_lss rfl rfl) (decide_eq_true (by(omega)))) ?_
          refine WL.nil ?_
          refine WC.seq<|WC.condT rfl ?_
          refine WC.skip ?_
          refine WC.seq<|WC.block ?_
          refine WC.seq<|WC.region ?_
          refine WL.q rfl (r_move rfl) ?_
          refine WL.q rfl (r_idx1 sl_76 rfl rfl rfl (by first|omega|(simp;done)|(simp;omega))) ?_
          replace hb3:=hb3.mono hE
          refine WL.q rfl (r_load one_3 rfl (Ext.refl _) (pow2_4 hb3 qi)) ?_
          refine WL.q rfl (r_assign rfl) ?_
          refine WL.q rfl (r_assign rfl) ?_
          refine WL.nil ?_
          refine WC.seq<|WC.region ?_
          refine WL.q rfl (r_move rfl) ?_
          refine WL.q rfl (r_move rfl) ?_
          refine WL.q rfl (r_muli (c:=8 * ((2^i:Nat):Int)) rfl rfl rfl (by omega) (by omega)) ?_
          refine WL.q rfl (r_subi rfl rfl rfl (by omega) (by omega)) ?_
          refine WL.q rfl (r_as (r_shl rfl rfl (by omega)) hlm) ?_
          refine WL.q rfl (r_cmp (r_lss rfl rfl) (decide_eq_false (by(omega)))) ?_
          refine WL.nil ?_
          refine WC.condF rfl ?_
          refine WC.skip ?_
          refine WC.region ?_
          refine WL.q rfl (r_addi rfl rfl rfl (by omega) (by omega)) ?_
          refine WL.q rfl (r_move rfl) ?_
          refine WL.nil ?_
          exact⟨(i+1,sv),(.cons rfl (.cons rfl (.cons rfl (.cons rfl (.cons rfl (.cons rfl (.cons rfl (.cons rfl .nil)))))))),(.cons rfl (.cons (lk_int rfl (by omega)) .nil)),⟨⟨ts,vs,hO,hV,vl,by dsimp only;omega,t0,qP,qne⟩,qi,hF,(hE)⟩,(by dsimp only;omega)⟩
      · have hi4:i=4:=by omega
        obtain⟨bq,cq,rfl,nbq,nbq2,hAt⟩:=own_pick hO hV vl t0
        have hVV:=fun(j:Nat) (hj:j<ts.length)=>Bs.get hj hV
        refine WC.seq<|WC.region ?_
        refine WL.q rfl (r_cmp (r_lss rfl rfl) (decide_eq_false (by(omega)))) ?_
        refine WL.nil ?_
        refine WC.seq<|WC.condF rfl ?_
        refine WC.exit ?_
        refine WC.seq<|WC.region ?_
        refine WL.q rfl (r_move rfl) ?_
        refine WL.q rfl (r_move rfl) ?_
        refine WL.q rfl (r_move rfl) ?_
        refine WL.q rfl (r_len sl_75 rfl) ?_
        refine WL.l rfl (l_do body_27 rfl (pick_ok (n:=ts.length) hF (by omega) (by omega))) fun v4 w4 hh=>?_
        obtain⟨⟨ki,qki,rfl⟩,hF,e4⟩:=hh
        obtain⟨xv,qxv,qxI⟩:=hVV ki qki
        have hxJ:=(qxI.weaken (B:=fun b=>w.heap.size≤b) fun b _ h=>h.1).mono e4
        have ns4:wi2.heap.size≤w4.heap.size:=e4.size
        refine WL.q rfl (r_idx1 sl_75 rfl rfl rfl (by first|omega|(simp;done)|(simp;omega))) ?_
        replace hAt:=hAt.mono e4
        refine WL.q rfl (r_load one_27 rfl (Ext.refl _) ((hAt ki (by omega)).trans qxv)) ?_
        refine WL.q rfl (r_assign rfl) ?_
        refine WL.nil ?_
        refine WC.ret ?_
        replace he:=(he.then hE).then e4
        exact fin1 rfl ⟨_,qP _ (List.getElem_mem qki),hxJ,hF,he⟩
end Go.Proofs.LL
