/- Contracts of functions and own laws. Conditions: those that each theorem states. -/
import Derived.Test.YtbkhpjeaacoobaaGreatDoorA12
set_option linter.all false
set_option maxRecDepth 20000
namespace Go.Proofs.LL
open Go Go.Proofs Go.RowKit
theorem agg_55:aggT Tryz.prog 55=some 2:=by kernel_rfl
theorem sl_79:slT Tryz.prog 79=some (55,2,16):=by kernel_rfl
theorem slk_79:slK Tryz.prog 79=true:=by kernel_rfl
theorem slz_79:slZ Tryz.prog 79=some (55,2,16,(.agg #[.int .i64 0,.int .i64 0])):=by kernel_rfl
theorem sz_55:szT Tryz.prog 55=some 2:=by kernel_rfl
theorem zt_55:zeroT Tryz.prog 55=some (.agg #[.int .i64 0,.int .i64 0]):=by kernel_rfl
abbrev Frm:=UInt8×Nat
def fcell(p:Frm):List Value:=[.int .i64 (p.1.toNat:Int),.int .i64 (p.2:Int)]
def fitb(n:Nat)(p:Frm):Bool:=decide (8≤p.2)||decide (n<256^p.2)
theorem fcells_len:∀l:List Frm,(l.flatMap fcell).length=l.length * 2
  |[]=>rfl
  |a::r=>by rw[List.flatMap_cons,List.length_append,fcells_len r,List.length_cons];show 2+r.length * 2=_;omega
theorem fcells_split{l:List Frm}{i:Nat}(h:i<l.length):l.flatMap fcell=(l.take i).flatMap fcell++(fcell l[i]++(l.drop (i+1)).flatMap fcell):=by
  conv=>lhs;rw[← List.take_append_drop i l,List.drop_eq_getElem_cons h]
  rw[List.flatMap_append,List.flatMap_cons]
theorem At.form{w:World}{b o:Nat}{l:List Frm}(h:At w b o (l.flatMap fcell)){i:Nat}(hi:i<l.length):At w b (o+i * 2) (fcell l[i]):=by
  rw[fcells_split hi]at h
  have h2:=At.mid h
  rw[fcells_len,List.length_take,Nat.min_eq_left (by omega)]at h2
  exact h2
theorem shr_fit{n s:Nat}(hn:n<18446744073709551616)(hs:s<8):((n:Int).fdiv (2^(min (8 * (s:Int)).toNat IntKind.u64.bits))==0)=decide (n<256^s):=by
  have e0:min (8 * (s:Int)).toNat IntKind.u64.bits=8 * s:=by
    have:IntKind.u64.bits=64:=rfl
    rw[this];omega
  have e1:((n:Int)).fdiv (2^(8 * s))=((n / 2^(8 * s):Nat):Int):=by
    rw[Int.fdiv_eq_ediv_of_nonneg _ (by exact_mod_cast Nat.zero_le (2^(8 * s)))]
    push_cast;rfl
  have e2:(256:Nat)^s=2^(8 * s):=by rw[Nat.pow_mul]
  rw[e0,e1,e2]
  have hp:0<2^(8 * s):=Nat.two_pow_pos _
  rcases Nat.lt_or_ge n (2^(8 * s))with h|h
  · rw[decide_eq_true h,Nat.div_eq_of_lt h];rfl
  · rw[decide_eq_false (by omega)]
    have:0<n / 2^(8 * s):=Nat.div_pos h hp
    generalize n / 2^(8 * s)=m at this
    exact beqF (by omega)
theorem fit_cond{n s:Nat}{c:UInt8}(hn:n<18446744073709551616)(hs:s≤8):(decide ((8:Int)≤(s:Int))||((n:Int).fdiv (2^(min (8 * (s:Int)).toNat IntKind.u64.bits))==0))=fitb n (c,s):=by
  unfold fitb
  rcases Nat.lt_or_ge s 8 with h|h
  · rw[shr_fit hn h,decide_eq_false (show¬(8:Int)≤(s:Int) by omega),decide_eq_false (show¬8≤(c,s).2 by show¬8≤s;omega)]
  · rw[decide_eq_true (show(8:Int)≤(s:Int) by omega),decide_eq_true (show 8≤(c,s).2 from h)];rfl
theorem sizes_ok{A:Nat→Prop}{b n:Nat}{fs:List Frm}{w:World}(hB:At w b 0 (fs.flatMap fcell))(hl:fs.length≤4)(h8:∀p∈fs,p.2≤8)(hn:n<18446744073709551616)(h0:0<fs.length):
    Does Tryz.prog 28 [.int .u64 (n:Int),.slice (some ⟨b,0,none⟩) fs.length fs.length] w fun r w'=>Own w.heap.size 55 2 w' r (fs.filter (fitb n)).length ((fs.filter (fitb n)).flatMap fcell)∧Ext w w':=by
  have hbl:b<w.heap.size:=lt_of_cell (by
    have h1:=hB 0 (by rw[fcells_len];omega)
    rw[List.getElem?_eq_getElem (by rw[fcells_len];omega)]at h1
    exact h1)
  refine does1 Tryz.func28 rfl rfl rfl ?_
  have he:Evo (fun b=>b<w.heap.size) w w:=Evo.refl w
  refine WC.seq<|WC.region ?_
  refine WL.q rfl (r_assign rfl) ?_
  refine WL.nil ?_
  refine WC.seq<|WC.region ?_
  refine WL.q rfl (r_assign rfl) ?_
  refine WL.nil ?_
  refine WC.seq<|WC.seq<|WC.region ?_
  refine WL.q rfl (r_move rfl) ?_
  refine WL.q rfl (r_len sl_79 rfl) ?_
  refine WL.q rfl (r_move rfl) ?_
  refine WL.nil ?_
  refine WC.block ?_
  refine WC.loop2 (ι:=(Nat×Value)) [(0,_),(4,_),(8,_),(9,_)] (fun i=>[(5,i.2),(10,.int .i64 (i.1:Int))]) (fun i wi=>Own w.heap.size 55 2 wi i.2 ((fs.take i.1).filter (fitb n)).length (((fs.take i.1).filter (fitb n)).flatMap fcell)∧i.1≤fs.length∧Evo (fun b=>b<w.heap.size) w wi) (fun i=>fs.length-i.1) (0,.slice none 0 0) (.cons rfl (.cons rfl (.cons rfl (.cons rfl .nil)))) (.cons rfl (.cons rfl .nil)) (⟨by simpa using Own.nil _ _ _ _,Nat.zero_le _,Evo.refl _⟩) ?_
  intro i wi1 hh;obtain⟨hO,ni,hE⟩:=hh
  obtain⟨i,sv⟩:=i
  dsimp only at hO ni
  have nwi:=hE.size
  have hfl:((fs.take i).filter (fitb n)).length≤4:=Nat.le_trans (List.length_filter_le _ _) (by rw[List.length_take];omega)
  rcases Nat.lt_or_ge i fs.length with qi|qi
  replace hB:=hB.mono hE
  · have hA:=hB.form qi
    have hp8:=h8 _ (List.getElem_mem qi)
    have htk:(fs.take (i+1)).filter (fitb n)=(fs.take i).filter (fitb n)++(if fitb n fs[i]=true then[fs[i]]else[]):=by
      rw[← List.take_append_getElem qi,List.filter_append]
      congr 1
      by_cases h:fitb n fs[i]=true
      · rw[if_pos h,List.filter_cons_of_pos h];rfl
      · rw[if_neg h,List.filter_cons_of_neg h];rfl
    rcases hf:fs[i]with⟨c,s⟩
    rw[hf]at hA hp8 htk
    dsimp only at hp8
    replace hA:At wi1 b (0+i * 2) [.int .i64 (c.toNat:Int),.int .i64 (s:Int)]:=hA
    have hfc:=fit_cond (c:=c) hn hp8
    refine WC.seq<|WC.region ?_
    refine WL.q rfl (r_cmp (r_lss rfl rfl) (decide_eq_true (by omega))) ?_
    refine WL.nil ?_
    refine WC.seq<|WC.condT rfl ?_
    refine WC.skip ?_
    refine WC.seq<|WC.block ?_
    refine WC.seq<|WC.region ?_
    refine WL.q rfl (r_idx sl_79 rfl rfl rfl (by first|omega|(simp;done)|(simp;omega))) ?_
    refine WL.q rfl (r_loadAgg agg_55 rfl (Ext.refl _) hA (hn:=rfl)) ?_
    replace he:=he.then hE
    have hs1:=he.size
    refine WL.l rfl (l_alloc zt_55 rfl) fun _ w1 hh=>?_
    obtain⟨rfl,hb1,e1⟩:=hh
    have nx1:=hb1.lt
    have ns1:wi1.heap.size≤w1.heap.size:=e1.size
    refine WL.l0 (l_storeW sz_55 rfl rfl (by first|rfl|assumption|(simp[*];done)|simp[Value.oneCell', *]) (by first|rfl|simp[*]) hb1 (by first|rfl|simp[*])) fun _ w2 hh=>?_
    obtain⟨hb1,e2,hz2⟩:=hh
    have ns2:w1.heap.size≤w2.heap.size:=e2.size
    refine WL.nil ?_
    refine WC.seq<|WC.region ?_
    refine WL.q rfl (r_fieldAddr rfl fo_55_1) ?_
    refine WL.q rfl (r_load one_3 rfl (Ext.refl _) (hb1.get rfl)) ?_
    refine WL.q rfl (r_geq rfl rfl) ?_
    refine WL.q rfl (r_move rfl) ?_
    refine WL.qc rfl rfl rfl rfl (fun hc=>r_move rfl) ?_
    refine WL.qc rfl rfl rfl rfl (fun hc=>r_fieldAddr rfl fo_55_1) ?_
    refine WL.qc rfl rfl rfl rfl (fun hc=>r_load one_3 (cnd_of hc) (Ext.refl _) (hb1.get rfl)) ?_
    refine WL.qc rfl rfl rfl rfl (fun hc=>r_muli rfl (cnd_of hc) rfl (by omega) (by omega)) ?_
    refine WL.qc rfl rfl rfl rfl (fun hc=>r_shr (cnd_of hc) (cnd_of hc) (by omega)) ?_
    refine WL.qc rfl rfl rfl rfl (fun hc=>r_eql (cnd_of hc) rfl) ?_
    refine WL.q rfl (r_or rfl rfl (fun h=>beq_iff_eq.2 h)) ?_
    refine WL.nil ?_
    refine WC.cond rfl ?_ ?_
    · intro hc
      rw[hfc]at hc
      rw[if_pos hc]at htk
      refine WC.region ?_
      refine WL.q rfl (r_move rfl) ?_
      refine WL.q rfl (r_loadAgg agg_55 rfl (Ext.refl _) hb1.at (hn:=by first|rfl|assumption)) ?_
      replace he:=he.then (e1.then e2)
      have hs3:=he.size
      have hx3b1:=hb1.lt
      refine WL.l rfl (l_lit (vs:=[_]) slz_79 rfl (by first|rfl|(simp[Value.cells,Nat.beq_eq, *];done)) rfl rfl rfl) fun _ w3 hh=>?_
      obtain⟨rfl,hb3,e3⟩:=hh
      have ns3:w2.heap.size≤w3.heap.size:=e3.size
      replace hO:=(hO.mono (e1.then e2)).mono e3
      refine WL.l rfl (l_app slz_79 rfl rfl hO (Src.at slk_79 hb3.at rfl rfl) (by omega) (by simp only[maxLen];omega) (by omega)) fun v4 w4 hh=>?_
      obtain⟨hO,e4⟩:=hh
      have ns4:w3.heap.size≤w4.heap.size:=e4.size
      refine WL.q rfl (r_assign rfl) ?_
      refine WL.nil ?_
      refine WC.region ?_
      refine WL.q rfl (r_addi rfl rfl rfl (by omega) (by omega)) ?_
      refine WL.q rfl (r_move rfl) ?_
      refine WL.nil ?_
      have hO2:Own w.heap.size 55 2 w4 v4 ((fs.take (i+1)).filter (fitb n)).length (((fs.take (i+1)).filter (fitb n)).flatMap fcell):=by
        rw[htk,List.flatMap_append]
        exact hO.cast (by simp) rfl
      exact⟨(i+1,v4),(.cons rfl (.cons rfl (.cons rfl (.cons rfl .nil)))),(.cons rfl (.cons (lk_int rfl (by omega)) .nil)),⟨hO2,qi,((((hE.then (e1.then e2)).then e3).then e4))⟩,(by dsimp only;omega)⟩
    · intro hc
      rw[hfc]at hc
      rw[if_neg (by rw[hc];decide),List.append_nil]at htk
      refine WC.skip ?_
      refine WC.region ?_
      refine WL.q rfl (r_addi rfl rfl rfl (by omega) (by omega)) ?_
      refine WL.q rfl (r_move rfl) ?_
      refine WL.nil ?_
      replace hO:=hO.mono (e1.then e2)
      exact⟨(i+1,sv),(.cons rfl (.cons rfl (.cons rfl (.cons rfl .nil)))),(.cons rfl (.cons (lk_int rfl (by omega)) .nil)),⟨by dsimp only;rw[htk];exact hO,qi,((hE.then (e1.then e2)))⟩,(by dsimp only;omega)⟩
  · have hil:i=fs.length:=by omega
    subst hil
    rw[List.take_length]at hO
    refine WC.seq<|WC.region ?_
    refine WL.q rfl (r_cmp (r_lss rfl rfl) (decide_eq_false (by omega))) ?_
    refine WL.nil ?_
    refine WC.seq<|WC.condF rfl ?_
    refine WC.exit ?_
    refine WC.seq<|WC.region ?_
    refine WL.q rfl (r_move rfl) ?_
    refine WL.q rfl (r_assign rfl) ?_
    refine WL.nil ?_
    refine WC.ret ?_
    replace he:=he.then hE
    exact fin1 rfl ⟨hO,he.weaken fun b hb _=>hb⟩
end Go.Proofs.LL
set_option maxRecDepth 20000
namespace Go.Proofs.LL
open Go Go.Proofs Go.RowKit
theorem body_19:bodyB Tryz.prog 19=true:=by kernel_rfl
theorem body_27:bodyB Tryz.prog 27=true:=by kernel_rfl
theorem body_28:bodyB Tryz.prog 28=true:=by kernel_rfl
theorem cv_3_22:cvInt Tryz.prog 3 22=some .u64:=by kernel_rfl
def HeadP(fixed:Int)(under:Nat)(fs:List Frm)(n:Nat)(bs:List UInt8):Prop:=
  (∃fx:Nat,fixed=(fx:Int)∧n<under∧bs=[UInt8.ofNat (fx+n)])∨∃p∈fs,fitb n p=true∧bs=p.1::bigB n p.2
theorem frm_at{B n:Nat}{w:World}{v:Value}{l:List Frm}(h:Own B 55 2 w v n (l.flatMap fcell))(hn:l.length=n)(hp:0<l.length):∃b c,v= .slice (some ⟨b,0,none⟩) l.length c∧B≤b∧At w b 0 (l.flatMap fcell):=by
  subst hn
  obtain⟨p,c,rfl,_,h3⟩:=h.form
  obtain⟨b,rfl,h4,_,h5⟩:=h3 hp
  exact⟨b,c,rfl,h4,h5⟩
theorem sizesA_ok{A:Nat→Prop}{b n:Nat}{fs:List Frm}{w:World}(hB:At w b 0 (fs.flatMap fcell))(hl:fs.length≤4)(h8:∀p∈fs,p.2≤8)(hn:n<18446744073709551616)(h0:0<fs.length)(hm:0<(fs.filter (fitb n)).length):
    Does Tryz.prog 28 [.int .u64 (n:Int),.slice (some ⟨b,0,none⟩) fs.length fs.length] w fun r w'=>∃bf cf,r= .slice (some ⟨bf,0,none⟩) (fs.filter (fitb n)).length cf∧w.heap.size≤bf∧At w' bf 0 ((fs.filter (fitb n)).flatMap fcell)∧Ext w w':=
  (sizes_ok (A:=A) hB hl h8 hn h0).imp fun r w' ⟨h1,h2⟩=>by
    obtain⟨bf,cf,h3,h4,h5⟩:=frm_at h1 rfl hm
    exact⟨bf,cf,h3,h4,h5,h2⟩
theorem bits_fix{fx n:Nat}(i:Nat)(hi:i≤8)(h1:fx%2^i=0)(h2:n<2^i)(h3:fx<256):IntKind.u8.wrap (bits .or .i64 (fx:Int) (n:Int))=((UInt8.ofNat (fx+n)).toNat:Int):=by
  have hp:2^i≤2^8:=Nat.pow_le_pow_right (by decide) hi
  have e:(2:Int)^i=((2^i:Nat):Int):=by push_cast;rfl
  rw[bits_join .i64 40 (by decide) (fun n h0 h1=>wrap_i64 (by omega) (by omega)) i _ _ (by omega) (by rw[e];omega) (by omega) (by omega) (by rw[e];omega) (by omega)]
  rw[IntKind.wrap_u8,UInt8.toNat_ofNat']
  omega
theorem putHead_ok{fb b n under:Nat}{fixed:Int}{fs:List Frm}{w:World}(hF:Fm w fb)(hB:At w b 0 (fs.flatMap fcell))(hbf:b≠fb)(hl:fs.length≤4)(h8:∀p∈fs,p.2≤8)(h0:0<fs.length)(hn:n≤131072)(hex:∃p∈fs,fitb n p=true)(hfx:0≤fixed→∃(fx i:Nat),fixed=fx∧fx<256∧i≤8∧fx%2^i=0∧under=2^i):
    Does Tryz.prog 20 [.pointer (some ⟨fb,0,none⟩),.int .i64 (n:Int),.int .i64 fixed,.int .i64 (under:Int),.slice (some ⟨b,0,none⟩) fs.length fs.length] w fun r w'=>∃bs,HeadP fixed under fs n bs∧Own w.heap.size 5 1 w' r bs.length (bc bs)∧Fm w' fb∧Evo (fun k=>k≠fb) w w':=by
  have hFl:=hF.lt
  have hcv:IntKind.u64.wrap (n:Int)=(n:Int):=by rw[IntKind.wrap_u64];omega
  have hml:0<(fs.filter (fitb n)).length:=by
    obtain⟨p,hp,hq⟩:=hex
    exact List.length_pos_iff.2 fun e=>by have:p∈fs.filter (fitb n):=List.mem_filter.2 ⟨hp,hq⟩;rw[e]at this;cases this
  have hml2:(fs.filter (fitb n)).length≤4:=Nat.le_trans (List.length_filter_le _ _) hl
  have hmem:∀(j:Nat) (h:j<(fs.filter (fitb n)).length),(fs.filter (fitb n))[j]∈fs∧fitb n (fs.filter (fitb n))[j]=true:=fun j h=>List.mem_filter.1 (List.getElem_mem h)
  rcases Decidable.em (0≤fixed∧n<under)with⟨qa,qb⟩|qn
  · obtain⟨fx,i,rfl,f1,f2,f3,f4⟩:=hfx qa
    subst f4
    refine does1 Tryz.func20 rfl rfl rfl ?_
    have he:Evo (fun k=>k≠fb) w w:=Evo.refl w
    refine WC.seq<|WC.region ?_
    refine WL.q rfl (r_assign rfl) ?_
    refine WL.nil ?_
    refine WC.seq<|WC.region ?_
    refine WL.q rfl (r_move rfl) ?_
    refine WL.q rfl (r_cvIntE cv_3_22 rfl hcv) ?_
    refine WL.q rfl (r_move rfl) ?_
    refine WL.l rfl (l_do body_28 rfl (sizesA_ok (A:=fun _=>True) hB hl h8 (by omega) h0 hml)) fun v1 w1 hh=>?_
    obtain⟨bf,cf,rfl,qbf,hAll,e1⟩:=hh
    have ns1:w.heap.size≤w1.heap.size:=e1.size
    refine WL.q rfl (r_assign rfl) ?_
    refine WL.nil ?_
    refine WC.seq<|WC.seq<|WC.region ?_
    refine WL.q rfl (r_move rfl) ?_
    refine WL.q rfl (r_cmp (r_geq rfl rfl) (decide_eq_true (qa))) ?_
    refine WL.q rfl (r_move rfl) ?_
    refine WL.qg rfl rfl rfl rfl (r_move rfl) ?_
    refine WL.qg rfl rfl rfl rfl (r_move rfl) ?_
    refine WL.qg rfl rfl rfl rfl (r_cmp (r_lss rfl rfl) (decide_eq_true (by(omega)))) ?_
    refine WL.q rfl (r_pick rfl rfl rfl) ?_
    refine WL.nil ?_
    refine WC.condT rfl ?_
    refine WC.seq<|WC.region ?_
    refine WL.q rfl (r_move rfl) ?_
    refine WL.q rfl (r_move rfl) ?_
    refine WL.q rfl (r_len sl_79 rfl) ?_
    refine WL.q rfl (r_addi rfl rfl (show(((fs.filter (fitb n)).length:Nat):Int)+1=(((fs.filter (fitb n)).length+1:Nat):Int) by omega) (by omega) (by omega)) ?_
    replace hF:=hF.mono e1
    refine WL.l rfl (l_do body_27 rfl (pick_ok (n:=(fs.filter (fitb n)).length+1) hF (by omega) (by omega))) fun v2 w2 hh=>?_
    obtain⟨⟨ki,qki,rfl⟩,hF,e2⟩:=hh
    have ns2:w1.heap.size≤w2.heap.size:=e2.size
    rcases Nat.eq_zero_or_pos ki with q|q
    · skip
      refine WL.q rfl (r_assign rfl) ?_
      refine WL.nil ?_
      refine WC.seq<|WC.seq<|WC.region ?_
      refine WL.q rfl (r_move rfl) ?_
      refine WL.q rfl (r_cmp (r_eql rfl rfl) (beqT (by(omega)))) ?_
      refine WL.nil ?_
      refine WC.condT rfl ?_
      refine WC.seq<|WC.region ?_
      refine WL.q rfl (r_move rfl) ?_
      refine WL.q rfl (r_move rfl) ?_
      refine WL.q rfl (r_bitor rfl rfl) ?_
      refine WL.q rfl (r_cvIntE cv_3_5 rfl (bits_fix i f2 f3 qb f1)) ?_
      refine WL.l rfl (l_litO (vs:=[_]) slz_27 rfl rfl rfl rfl rfl) fun v3 w3 hh=>?_
      obtain⟨rfl,hOl,e3⟩:=hh
      have ns3:w2.heap.size≤w3.heap.size:=e3.size
      refine WL.q rfl (r_assign rfl) ?_
      refine WL.nil ?_
      refine WC.ret ?_
      replace hF:=hF.mono e3
      replace he:=((he.then e1).then e2).then e3
      exact fin1 rfl ⟨[UInt8.ofNat (fx+n)],.inl ⟨fx,rfl,qb,rfl⟩,hOl.low (by have:=he.size;omega),hF,he⟩
    · obtain⟨j,rfl⟩:∃j,ki=j+1:=⟨ki-1,by omega⟩
      have hj:j<(fs.filter (fitb n)).length:=by omega
      refine WL.q rfl (r_assign rfl) ?_
      refine WL.nil ?_
      refine WC.seq<|WC.seq<|WC.region ?_
      refine WL.q rfl (r_move rfl) ?_
      refine WL.q rfl (r_cmp (r_eql rfl rfl) (beqF (by(omega)))) ?_
      refine WL.nil ?_
      refine WC.condF rfl ?_
      refine WC.skip ?_
      refine WC.seq<|WC.region ?_
      refine WL.q rfl (r_move rfl) ?_
      refine WL.q rfl (r_move rfl) ?_
      refine WL.q rfl (r_subi rfl rfl (show((j+1:Nat):Int)-1=(j:Int) by omega) (by omega) (by omega)) ?_
      refine WL.q rfl (r_idx sl_79 rfl rfl rfl (by first|omega|(simp;done)|(simp;omega))) ?_
      replace hAll:=hAll.mono e2
      refine WL.q rfl (r_loadAgg agg_55 rfl (Ext.refl _) (hAll.form hj) (hn:=rfl)) ?_
      refine WL.q rfl (r_move rfl) ?_
      refine WL.q rfl (r_cvIntE cv_3_22 rfl hcv) ?_
      refine WL.l rfl (l_do body_19 rfl (headed_ok (h8 _ (hmem j hj).1) (by omega))) fun v3 w3 hh=>?_
      obtain⟨hR,e3⟩:=hh
      have ns3:w2.heap.size≤w3.heap.size:=e3.size
      refine WL.q rfl (r_assign rfl) ?_
      refine WL.nil ?_
      refine WC.ret ?_
      replace hF:=hF.mono e3
      replace he:=((he.then e1).then e2).then e3
      exact fin1 rfl ⟨_,.inr ⟨_,(hmem j hj).1,(hmem j hj).2,rfl⟩,(hR.low (by omega)).cast (by simp[bigB_length]) rfl,hF,he⟩
  · skip
    refine does1 Tryz.func20 rfl rfl rfl ?_
    have he:Evo (fun k=>k≠fb) w w:=Evo.refl w
    refine WC.seq<|WC.region ?_
    refine WL.q rfl (r_assign rfl) ?_
    refine WL.nil ?_
    refine WC.seq<|WC.region ?_
    refine WL.q rfl (r_move rfl) ?_
    refine WL.q rfl (r_cvIntE cv_3_22 rfl hcv) ?_
    refine WL.q rfl (r_move rfl) ?_
    refine WL.l rfl (l_do body_28 rfl (sizesA_ok (A:=fun _=>True) hB hl h8 (by omega) h0 hml)) fun v1 w1 hh=>?_
    obtain⟨bf,cf,rfl,qbf,hAll,e1⟩:=hh
    have ns1:w.heap.size≤w1.heap.size:=e1.size
    refine WL.q rfl (r_assign rfl) ?_
    refine WL.nil ?_
    refine WC.seq<|WC.seq<|WC.region ?_
    refine WL.q rfl (r_move rfl) ?_
    refine WL.q rfl (r_geq rfl rfl) ?_
    refine WL.q rfl (r_move rfl) ?_
    refine WL.qc rfl rfl rfl rfl (fun hc=>r_move rfl) ?_
    refine WL.qc rfl rfl rfl rfl (fun hc=>r_move rfl) ?_
    refine WL.qc rfl rfl rfl rfl (fun hc=>r_lss (cnd_of hc) (cnd_of hc)) ?_
    refine WL.q rfl (r_and rfl rfl (fun h=>beq_iff_eq.2 h)) ?_
    refine WL.nil ?_
    refine WC.cond rfl ?_ ?_
    · intro hc
      exfalso
      simp only[Bool.and_eq_true,decide_eq_true_eq]at hc
      exact qn ⟨hc.1,by omega⟩
    · intro _
      refine WC.skip ?_
      refine WC.seq<|WC.region ?_
      refine WL.q rfl (r_move rfl) ?_
      refine WL.q rfl (r_move rfl) ?_
      refine WL.q rfl (r_move rfl) ?_
      refine WL.q rfl (r_len sl_79 rfl) ?_
      replace hF:=hF.mono e1
      refine WL.l rfl (l_do body_27 rfl (pick_ok (n:=(fs.filter (fitb n)).length) hF (by omega) (by omega))) fun v2 w2 hh=>?_
      obtain⟨⟨j,qj,rfl⟩,hF,e2⟩:=hh
      have ns2:w1.heap.size≤w2.heap.size:=e2.size
      refine WL.q rfl (r_idx sl_79 rfl rfl rfl (by first|omega|(simp;done)|(simp;omega))) ?_
      replace hAll:=hAll.mono e2
      refine WL.q rfl (r_loadAgg agg_55 rfl (Ext.refl _) (hAll.form qj) (hn:=rfl)) ?_
      refine WL.q rfl (r_move rfl) ?_
      refine WL.q rfl (r_cvIntE cv_3_22 rfl hcv) ?_
      refine WL.l rfl (l_do body_19 rfl (headed_ok (h8 _ (hmem j qj).1) (by omega))) fun v3 w3 hh=>?_
      obtain⟨hR,e3⟩:=hh
      have ns3:w2.heap.size≤w3.heap.size:=e3.size
      refine WL.q rfl (r_assign rfl) ?_
      refine WL.nil ?_
      refine WC.ret ?_
      replace hF:=hF.mono e3
      replace he:=((he.then e1).then e2).then e3
      exact fin1 rfl ⟨_,.inr ⟨_,(hmem j qj).1,(hmem j qj).2,rfl⟩,(hR.low (by omega)).cast (by simp[bigB_length]) rfl,hF,he⟩
end Go.Proofs.LL
set_option maxRecDepth 20000
namespace Go.Proofs.LL
open Go Go.Proofs Go.RowKit
def Bs(A:Nat→Prop)(w:World):List Value→List (List UInt8)→Prop
  |[],[]=>True
  |v::vs,t::ts=>IsB A w v t∧Bs A w vs ts
  |_,_=>False
theorem Bs.mono{A B:Nat→Prop}{w w':World}:∀ {vs:List Value} {ts:List (List UInt8)} (_:Bs A w vs ts) (_:Evo B w w') (_:∀b,b<w.heap.size→A b→B b:=by(intro b hb1 hb2;first|exact trivial|exact hb2|((try dsimp only[Nb]at hb2⊢);omega))),Bs A w' vs ts
  |[],[],_,_,_=>trivial
  |v::vs,t::ts,h,e,hAB=>⟨h.1.mono e hAB,h.2.mono e hAB⟩
  |[],_::_,h,_,_=>h.elim
  |_::_,[],h,_,_=>h.elim
theorem Bs.weaken{A B:Nat→Prop}{w:World}:∀ {vs:List Value} {ts:List (List UInt8)} (_:Bs A w vs ts) (_:∀b,b<w.heap.size→A b→B b),Bs B w vs ts
  |[],[],_,_=>trivial
  |v::vs,t::ts,h,hAB=>⟨h.1.weaken hAB,h.2.weaken hAB⟩
  |[],_::_,h,_=>h.elim
  |_::_,[],h,_=>h.elim
theorem Bs.length{A:Nat→Prop}{w:World}:∀ {vs:List Value} {ts:List (List UInt8)},Bs A w vs ts→vs.length=ts.length
  |[],[],_=>rfl
  |v::vs,t::ts,h=>by simp[h.2.length]
  |[],_::_,h=>h.elim
  |_::_,[],h=>h.elim
theorem Bs.snoc{A:Nat→Prop}{w:World}:∀ {vs:List Value} {ts:List (List UInt8)} {v:Value} {t:List UInt8},Bs A w vs ts→IsB A w v t→Bs A w (vs++[v]) (ts++[t])
  |[],[],_,_,_,h=>⟨h,trivial⟩
  |_::_,_::_,_,_,h,h'=>⟨h.1,h.2.snoc h'⟩
  |[],_::_,_,_,h,_=>h.elim
  |_::_,[],_,_,h,_=>h.elim
theorem Bs.pushG{R:Nat→Prop}{wi w5:World}{sv v5 x:Value}{vs:List Value}{ts:List (List UInt8)}{t:List UInt8}(hV:Bs (fun b=>R b∧sv.ownBlock≠some b) wi vs ts)(hy:IsB (fun b=>R b∧sv.ownBlock≠some b) wi x t)
    (e5:Evo (fun k=>sv.ownBlock≠some k) wi w5) (hob:v5.ownBlock=sv.ownBlock∨∀b,v5.ownBlock=some b→wi.heap.size≤b):Bs (fun b=>R b∧v5.ownBlock≠some b) w5 (vs++[x]) (ts++[t]):=by
  have h1:Bs (fun b=>(R b∧sv.ownBlock≠some b)∧b<wi.heap.size) wi (vs++[x]) (ts++[t]):=(hV.snoc hy).weaken fun b hb h=>⟨h,hb⟩
  refine(h1.mono e5 (fun b _ h=>h.1.2)).weaken fun b _ h=>⟨h.1.1,fun e=>?_⟩
  rcases hob with h3|h3
  · rw[h3]at e;exact h.1.2 e
  · have:=h3 b e;omega
theorem l_appB{P:Program}{ρ:Fr}{ty:TypeId}{s x:Operand}{w:World}{R:Nat→Prop}{B t tx n bs:Nat}{zv v u y:Value}{vs:List Value}{ts:List (List UInt8)}{l:List UInt8}(ht:slZ P t=some (27,1,bs,zv))(hs:ov ρ s=some v)(hx:ov ρ x=some u)(hown:Own B 27 1 w v n vs)(hV:Bs (fun b=>R b∧v.ownBlock≠some b) w vs ts)(hy:IsB (fun b=>R b∧v.ownBlock≠some b) w y l)(hsrc:Src P 1 tx u 1 [y] w)(hB:B≤w.heap.size)(h63:n+1≤maxLen)(hbytes:(n+1) * bs≤140737488355328):
    LoudOp P (.call ⟨.builtin .append, #[s,x], #[t,tx]⟩) ty ρ w (fun v' w'=>Own B 27 1 w' v' (n+1) (vs++[y])∧Bs (fun b=>R b∧v'.ownBlock≠some b) w' (vs++[y]) (ts++[l])∧Evo (fun k=>k<B) w w'):=
  (l_appO ht hs hx hown hsrc hB h63 hbytes).imp fun v' w' ⟨h1,h2,h3⟩=>⟨h1,Bs.pushG hV hy h2 h3,hown.evo (w0:=w) h2⟩
theorem l_appBC{P:Program}{ρ:Fr}{ty:TypeId}{s x:Operand}{w:World}{R:Nat→Prop}(C:Nat→Prop){B t tx n bs:Nat}{zv v u y:Value}{vs:List Value}{ts:List (List UInt8)}{l:List UInt8}(hC:∀k,C k→v.ownBlock≠some k)(ht:slZ P t=some (27,1,bs,zv))(hs:ov ρ s=some v)(hx:ov ρ x=some u)(hown:Own B 27 1 w v n vs)(hV:Bs (fun b=>R b∧v.ownBlock≠some b) w vs ts)(hy:IsB (fun b=>R b∧v.ownBlock≠some b) w y l)(hsrc:Src P 1 tx u 1 [y] w)(hB:B≤w.heap.size)(h63:n+1≤maxLen)(hbytes:(n+1) * bs≤140737488355328):
    LoudOp P (.call ⟨.builtin .append, #[s,x], #[t,tx]⟩) ty ρ w (fun v' w'=>Own B 27 1 w' v' (n+1) (vs++[y])∧Bs (fun b=>R b∧v'.ownBlock≠some b) w' (vs++[y]) (ts++[l])∧(∀k,k<w.heap.size→v.ownBlock≠some k→v'.ownBlock≠some k)∧Evo C w w'):=
  (l_appO ht hs hx hown hsrc hB h63 hbytes).imp fun v' w' ⟨h1,h2,h3⟩=>⟨h1,Bs.pushG hV hy h2 h3,fun k hk hne e=>by
    rcases h3 with h3|h3
    · rw[h3]at e;exact hne e
    · have:=h3 k e;omega,h2.weaken fun k _ hk=>hC k hk⟩
theorem Bs.get{A:Nat→Prop}{w:World}:∀ {vs:List Value} {ts:List (List UInt8)} {i:Nat} (hi:i<ts.length),Bs A w vs ts→∃v,vs[i]?=some v∧IsB A w v ts[i]
  |[],[],i,hi,_=>absurd hi (by simp)
  |v::vs,t::ts,0,_,h=>⟨v,rfl,h.1⟩
  |v::vs,t::ts,i+1,hi,h=>by
    obtain⟨u,h1,h2⟩:=Bs.get (i:=i) (by simpa using hi) h.2
    exact⟨u,by simpa using h1,by simpa using h2⟩
  |[],_::_,_,_,h=>h.elim
  |_::_,[],_,hi,_=>absurd hi (by simp)
theorem own_pick{B n e:Nat}{A:Nat→Prop}{w:World}{v:Value}{vs:List Value}{ts:List (List UInt8)}(h:Own B e 1 w v n vs)(hV:Bs A w vs ts)(hl:vs.length=ts.length)(hp:0<ts.length):∃b c,v= .slice (some ⟨b,0,none⟩) ts.length c∧B≤b∧b<w.heap.size∧At w b 0 vs:=by
  have h1:=h.length
  obtain⟨p,c,rfl,_,h3⟩:=h.form
  obtain⟨b,rfl,h4,h6,h5⟩:=h3 (by omega)
  exact⟨b,c,by rw[show n=ts.length by omega],h4,h6,h5⟩
end Go.Proofs.LL
