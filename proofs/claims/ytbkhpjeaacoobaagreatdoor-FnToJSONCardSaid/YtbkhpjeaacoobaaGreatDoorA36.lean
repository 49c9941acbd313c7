/- Contracts of functions and own laws. Conditions: those that each theorem states. -/
import Derived.Test.YtbkhpjeaacoobaaGreatDoorA35
set_option linter.all false
set_option maxRecDepth 20000
namespace Go.Proofs.LL
open Go Go.Proofs Go.RowKit
theorem body_30:bodyB Tryz.prog 30=true:=by kernel_rfl
def dval(l:List UInt8):Nat:=l.foldl (fun a b=>a * 10+(b.toNat-48)) 0
theorem dval_snoc(l:List UInt8)(b:UInt8):dval (l++[b])=dval l * 10+(b.toNat-48):=by simp[dval]
theorem dval_take(l:List UInt8):∀k,dval (l.take (l.length-k))≤dval l
  |0=>by rw[Nat.sub_zero,List.take_length];exact Nat.le_refl _
  |k+1=>by
    have h1:=dval_take l k
    rcases Nat.lt_or_ge k l.length with h|h
    · have e:l.length-k=l.length-(k+1)+1:=by omega
      have e2:l.take (l.length-k)=l.take (l.length-(k+1))++[l[l.length-(k+1)]]:=by rw[e];exact(List.take_append_getElem (by omega)).symm
      rw[e2,dval_snoc]at h1
      omega
    · rw[show l.length-(k+1)=l.length-k by omega];exact h1
theorem dval_le(l:List UInt8)(i:Nat)(h:i≤l.length):dval (l.take i)≤dval l:=by
  have:=dval_take l (l.length-i)
  rwa [show l.length-(l.length-i)=i by omega]at this
theorem dd_facts(u:Nat):dval (Lib.decDigits u)=u∧(∀b∈Lib.decDigits u,48≤b.toNat∧b.toNat≤57)∧0<(Lib.decDigits u).length∧(1≤u→((Lib.decDigits u).getD 0 0).toNat≠48)∧(1<(Lib.decDigits u).length→1≤u):=by
  induction u using Nat.strongRecOn with
  |_ u ih=>
    by_cases h:u<10
    · have e:(UInt8.ofNat (48+u)).toNat=48+u:=by rw[UInt8.toNat_ofNat'];omega
      rw[Lib.decDigits,dif_pos h]
      refine⟨by show 0 * 10+((UInt8.ofNat (48+u)).toNat-48)=u;rw[e];omega,fun b hb=>?_,by simp,fun h1=>?_,fun h1=>by simp at h1⟩
      · simp only[List.mem_singleton]at hb
        subst hb
        rw[e];omega
      · simp only[List.getD_cons_zero]
        rw[e];omega
    · obtain⟨h1,h2,h3,h4,_⟩:=ih (u / 10) (by omega)
      have e:(UInt8.ofNat (48+u%10)).toNat=48+u%10:=by rw[UInt8.toNat_ofNat'];omega
      rw[Lib.decDigits,dif_neg h]
      refine⟨by rw[dval_snoc,h1,e];omega,fun b hb=>?_,by simp,fun _=>?_,fun _=>by omega⟩
      · rcases List.mem_append.1 hb with hb|hb
        · exact h2 b hb
        · simp only[List.mem_singleton]at hb
          subst hb
          rw[e];omega
      · have:=h4 (by omega)
        rw[List.getD_eq_getElem?_getD,List.getElem?_append_left h3,← List.getD_eq_getElem?_getD]
        exact this
def VR(w:World)(jb:Nat)(s:List UInt8)(p:Nat)(x:Pk)(u:Value)(w':World):Prop:=
  (∃c,u= .agg c.toArray∧c.length=5∧c.all (fun v=>v.oneCell')=true∧RepP (fun b=>w.heap.size≤b) w' x c)∧Jt w' jb s p∧Evo (fun k=>k≠jb) w w'
theorem rep0{A:Nat→Prop}{w:World}{k:Int}{n:Nat}{t:List UInt8}:RepP A w (.mk k n t 0 []) [.int .i64 k,.int .u64 (n:Int),str t,.int .i64 0,.slice none 0 0]:=by
  rw[RepP]
  exact⟨_,rfl,SlX.zero⟩
def ND(r:List UInt8):Prop:=r=[]∨∃b r',r=b::r'∧(b.toNat<48∨57<b.toNat)
theorem numP_ok{jb p u:Nat}{s r:List UInt8}{w:World}(hK:Jt w jb s p)(hd0:s.drop p=Lib.decDigits u++r)(hu:u<18446744073709551616)(hr:ND r)(hs:s.length≤1000000000000):
    Does Tryz.prog 33 [.pointer (some ⟨jb,0,none⟩)] w fun v w'=>VR w jb s (p+(Lib.decDigits u).length) (.mk 3 u [] 0 []) v w':=by
  have hsz:({data:=s.toArray}:ByteArray).size=s.length:=rfl
  have hlt:=hK.lt
  obtain⟨qd,qr,qpos,qh,qh1⟩:=dd_facts u
  have hd:=hd0
  generalize Lib.decDigits u=D at *
  obtain⟨P,qP⟩:∃P,P=p:=⟨_,rfl⟩
  rw[← qP]at hd
  have qsl:=congrArg List.length hd
  rw[List.length_drop,List.length_append]at qsl
  have qfs:∃b r',s.drop P=b::r'∧48≤b.toNat:=by
    match D,qpos,qr,hd with
    |b::D',_,qr,hd=>exact⟨b,_,hd,(qr b (by simp)).1⟩
  obtain⟨b1,r1,qd1,qb1⟩:=qfs
  have q45:([45]:List UInt8).length=1:=rfl
  unfold VR
  unfold Jt at hK⊢
  refine doesR Tryz.func33 rfl rfl rfl ?_
  have he:Evo (fun k=>k≠jb) w w:=Evo.refl w
  refine WC.seq<|WC.region ?_
  have hs1:=he.size
  refine WL.l rfl (l_alloc zt_25 rfl) fun _ w1 hh=>?_
  obtain⟨rfl,hb1,e1⟩:=hh
  have nx1:=hb1.lt
  have ns1:w.heap.size≤w1.heap.size:=e1.size
  refine WL.nil ?_
  refine WC.seq<|WC.region ?_
  refine WL.q rfl (r_move rfl) ?_
  replace hK:=hK.mono e1
  refine WL.l rfl (l_do body_30 rfl (wordF_ok (c:=45) (t:=[]) hK (by omega) (by rw[← qP];exact qd1) (fun e=>by rw[e]at qb1;revert qb1;decide) hs (by decide))) fun v2 w2 hh=>?_
  obtain⟨rfl,e2⟩:=hh
  have ns2:w1.heap.size≤w2.heap.size:=e2.size
  refine WL.q rfl (r_assign rfl) ?_
  refine WL.nil ?_
  refine WC.seq<|WC.region ?_
  refine WL.q rfl (r_move rfl) ?_
  refine WL.q rfl (r_nilp rfl) ?_
  refine WL.q rfl (r_fieldAddr rfl fo_61_1) ?_
  replace hK:=hK.mono e2
  refine WL.q rfl (r_load one_3 rfl (Ext.refl _) (hK.get rfl)) ?_
  refine WL.q rfl (r_assign rfl) ?_
  refine WL.nil ?_
  refine WC.seq<|WC.region ?_
  refine WL.q rfl (r_assign rfl) ?_
  refine WL.nil ?_
  refine WC.seq<|WC.block ?_
  have hK2:=Jc (j:=((P+0:Nat):Int)) hK (by omega)
  replace hb1:=hb1.mono e2
  replace he:=(he.then e1).then e2
  refine WC.loop2 (ι:=Nat) [(0,_),(2,_),(3,_),(4,_)] (fun i=>[(5,.int .u64 (dval (D.take i):Int))]) (fun i wi=>Blk wi jb [str s,.int .i64 ((P+i:Nat):Int),.bool false]∧i≤D.length∧Evo (fun k=>k≠jb) w2 wi) (fun i=>D.length-i) 0 (.cons rfl (.cons rfl (.cons rfl (.cons rfl .nil)))) (.cons rfl .nil) (⟨hK2,Nat.zero_le _,Evo.refl _⟩) ?_
  intro i wi1 hh;obtain⟨hK3,ni,hE⟩:=hh
  rcases Nat.lt_or_ge i D.length with qi|qi
  · have qdr:s.drop (P+i)=D[i]::(D.drop (i+1)++r):=by
      rw[← List.drop_drop,hd,List.drop_append_of_le_length (by omega),List.drop_eq_getElem_cons qi];rfl
    obtain⟨qp,qg1,_⟩:=drop_c qdr
    obtain⟨q48,q57⟩:=qr _ (List.getElem_mem qi)
    have qt:dval (D.take (i+1))=dval (D.take i) * 10+(D[i].toNat-48):=by rw[← List.take_append_getElem qi,dval_snoc]
    have ql:=dval_le D (i+1) qi
    have qw1:IntKind.u8.wrap ((D[i].toNat:Int)-48)=((D[i].toNat-48:Nat):Int):=by rw[IntKind.wrap_u8];omega
    have qw2:IntKind.u64.wrap ((D[i].toNat-48:Nat):Int)=((D[i].toNat-48:Nat):Int):=wu (by omega) (by omega)
    have qw3:IntKind.u64.wrap ((18446744073709551615:Int)-((D[i].toNat-48:Nat):Int))=((18446744073709551615-(D[i].toNat-48):Nat):Int):=by rw[wu (by omega) (by omega)];omega
    have qw4:IntKind.u64.wrap (((18446744073709551615-(D[i].toNat-48):Nat):Int).tdiv 10)=(((18446744073709551615-(D[i].toNat-48)) / 10:Nat):Int):=by rw[Int.tdiv_eq_ediv_of_nonneg (by omega),wu (by omega) (by omega)];omega
    have qw5:IntKind.u64.wrap ((10:Int) * (dval (D.take i):Int))=((10 * dval (D.take i):Nat):Int):=by rw[wu (by omega) (by omega)];omega
    have qw6:IntKind.u64.wrap (((10 * dval (D.take i):Nat):Int)+((D[i].toNat-48:Nat):Int))=(dval (D.take (i+1)):Int):=by rw[wu (by omega) (by omega),qt];omega
    replace hb1:=hb1.mono hE
    refine WC.seq<|WC.seq<|WC.regionD [(true,0),(true,1),(true,2),(true,3),(true,4),(true,5),(true,6),(true,7),(true,8),(true,9),(true,10),(true,11),(true,12),(true,13),(true,14),(true,15),(true,16),(true,17),(true,18),(true,19),(true,20),(true,21),(true,22),(true,23),(true,24),(true,25),(true,26),(true,27),(true,28),(true,29),(true,30),(true,31),(true,32),(true,33)] (Ext _) mixed (by kernel_rfl) (Ext.drew _) ?_
    have nd1wi1:wi1.drew.heap.size=wi1.heap.size:=rfl
    refine WD.q rfl (fun _ hS=>r_move rfl) ?_
    refine WD.q rfl (fun _ hS=>r_nilp rfl) ?_
    refine WD.q rfl (fun _ hS=>r_fieldAddr rfl fo_61_1) ?_
    refine WD.q rfl (fun _ hS=>r_load one_3 rfl hS (hK3.get rfl)) ?_
    refine WD.q rfl (fun _ hS=>r_move rfl) ?_
    refine WD.q rfl (fun _ hS=>r_nilp rfl) ?_
    refine WD.q rfl (fun _ hS=>r_fieldAddr rfl fo_61_0) ?_
    refine WD.q rfl (fun _ hS=>r_load one_9 rfl hS (hK3.get rfl)) ?_
    refine WD.q rfl (fun _ hS=>r_lens str_9 rfl) ?_
    refine WD.q rfl (fun _ hS=>r_cmp (r_lss rfl rfl) (decide_eq_true (by(omega)))) ?_
    refine WD.q rfl (fun _ hS=>r_move rfl) ?_
    refine WD.qg rfl rfl rfl rfl (fun _ hS=>r_move rfl) ?_
    refine WD.qg rfl rfl rfl rfl (fun _ hS=>r_nilp rfl) ?_
    refine WD.qg rfl rfl rfl rfl (fun _ hS=>r_fieldAddr rfl fo_61_0) ?_
    refine WD.qg rfl rfl rfl rfl (fun _ hS=>r_load one_9 rfl hS (hK3.get rfl)) ?_
    refine WD.qg rfl rfl rfl rfl (fun _ hS=>r_move rfl) ?_
    refine WD.qg rfl rfl rfl rfl (fun _ hS=>r_nilp rfl) ?_
    refine WD.qg rfl rfl rfl rfl (fun _ hS=>r_fieldAddr rfl fo_61_1) ?_
    refine WD.qg rfl rfl rfl rfl (fun _ hS=>r_load one_3 rfl hS (hK3.get rfl)) ?_
    refine WD.qg rfl rfl rfl rfl (fun _ hS=>r_idxs str_9 rfl rfl rfl (by assumption)) ?_
    refine WD.qg rfl rfl rfl rfl (fun _ hS=>r_cmp (r_geq rfl rfl) (decide_eq_true (by(omega)))) ?_
    refine WD.q rfl (fun _ hS=>r_pick rfl rfl rfl) ?_
    refine WD.q rfl (fun _ hS=>r_move rfl) ?_
    refine WD.qg rfl rfl rfl rfl (fun _ hS=>r_move rfl) ?_
    refine WD.qg rfl rfl rfl rfl (fun _ hS=>r_nilp rfl) ?_
    refine WD.qg rfl rfl rfl rfl (fun _ hS=>r_fieldAddr rfl fo_61_0) ?_
    refine WD.qg rfl rfl rfl rfl (fun _ hS=>r_load one_9 rfl hS (hK3.get rfl)) ?_
    refine WD.qg rfl rfl rfl rfl (fun _ hS=>r_move rfl) ?_
    refine WD.qg rfl rfl rfl rfl (fun _ hS=>r_nilp rfl) ?_
    refine WD.qg rfl rfl rfl rfl (fun _ hS=>r_fieldAddr rfl fo_61_1) ?_
    refine WD.qg rfl rfl rfl rfl (fun _ hS=>r_load one_3 rfl hS (hK3.get rfl)) ?_
    refine WD.qg rfl rfl rfl rfl (fun _ hS=>r_idxs str_9 rfl rfl rfl (by assumption)) ?_
    refine WD.qg rfl rfl rfl rfl (fun _ hS=>r_cmp (r_leq rfl rfl) (decide_eq_true (by(omega)))) ?_
    refine WD.q rfl (fun _ hS=>r_pick rfl rfl rfl) ?_
    refine WD.nil ?_
    refine WC.condT rfl ?_
    refine WC.skip ?_
    refine WC.block ?_
    replace hb1:=hb1.mono (Ext.drew _)
    replace hK3:=hK3.mono (Ext.drew _)
    refine WC.seq<|WC.regionD [(true,0),(true,1),(true,2),(true,3),(true,4),(true,5),(true,6),(true,7),(true,8),(true,9),(true,10),(true,11)] (Ext _) mixed (by kernel_rfl) (Ext.drew _) ?_
    have nd2wi1:wi1.drew.drew.heap.size=wi1.heap.size:=rfl
    have nd1wi1:wi1.drew.heap.size=wi1.heap.size:=rfl
    refine WD.q rfl (fun _ hS=>r_move rfl) ?_
    refine WD.q rfl (fun _ hS=>r_nilp rfl) ?_
    refine WD.q rfl (fun _ hS=>r_fieldAddr rfl fo_61_0) ?_
    refine WD.q rfl (fun _ hS=>r_load one_9 rfl hS (hK3.get rfl)) ?_
    refine WD.q rfl (fun _ hS=>r_move rfl) ?_
    refine WD.q rfl (fun _ hS=>r_nilp rfl) ?_
    refine WD.q rfl (fun _ hS=>r_fieldAddr rfl fo_61_1) ?_
    refine WD.q rfl (fun _ hS=>r_load one_3 rfl hS (hK3.get rfl)) ?_
    refine WD.q rfl (fun _ hS=>r_idxs str_9 rfl rfl rfl (by assumption)) ?_
    refine WD.q rfl (fun _ hS=>r_as (r_sub rfl rfl) qw1) ?_
    refine WD.q rfl (fun _ hS=>r_cvIntE cv_5_22 rfl qw2) ?_
    refine WD.q rfl (fun _ hS=>r_assign rfl) ?_
    refine WD.nil ?_
    refine WC.seq<|WC.seq<|WC.region ?_
    refine WL.q rfl (r_move rfl) ?_
    refine WL.q rfl (r_move rfl) ?_
    refine WL.q rfl (r_as (r_sub rfl rfl) qw3) ?_
    refine WL.q rfl (r_quoE (by decide) rfl rfl qw4) ?_
    refine WL.q rfl (r_cmp (r_gtr rfl rfl) (decide_eq_false (by(omega)))) ?_
    refine WL.nil ?_
    refine WC.condF rfl ?_
    refine WC.skip ?_
    refine WC.seq<|WC.region ?_
    refine WL.q rfl (r_move rfl) ?_
    refine WL.q rfl (r_as (r_mul rfl rfl) qw5) ?_
    refine WL.q rfl (r_move rfl) ?_
    refine WL.q rfl (r_as (r_add rfl rfl) qw6) ?_
    refine WL.q rfl (r_assign rfl) ?_
    refine WL.nil ?_
    refine WC.region ?_
    refine WL.q rfl (r_move rfl) ?_
    refine WL.q rfl (r_nilp rfl) ?_
    refine WL.q rfl (r_fieldAddr rfl fo_61_1) ?_
    replace hK3:=hK3.mono (Ext.drew _)
    refine WL.q rfl (r_load one_3 rfl (Ext.refl _) (hK3.get rfl)) ?_
    refine WL.q rfl (r_addi rfl rfl rfl (by omega) (by omega)) ?_
    refine WL.q rfl (r_nilp rfl) ?_
    refine WL.q rfl (r_fieldAddr rfl fo_61_1) ?_
    refine WL.l0 (l_store sz_3 rfl rfl (by first|rfl|assumption|exact Own.one (by assumption)) hK3 rfl) fun _ w3 hh=>?_
    obtain⟨hK3,e3,hz3⟩:=hh
    have ns3:wi1.heap.size≤w3.heap.size:=e3.size
    refine WL.nil ?_
    exact⟨i+1,(.cons rfl (.cons rfl (.cons rfl (.cons rfl .nil)))),(.cons (lk_int rfl (by first|omega|(dsimp only;omega)|(dsimp only;done))) .nil),⟨Jc hK3 (by omega),qi,((((hE.then (Ext.drew _)).then (Ext.drew _)).then e3))⟩,by omega⟩
  · have qin:i=D.length:=by omega
    subst qin
    rw[List.take_length,qd]
    have qdr:s.drop (P+D.length)=r:=by rw[← List.drop_drop,hd,List.drop_left]
    have qg0:(⟨s.toArray⟩:ByteArray)[P]?=some b1:=(drop_c qd1).2.1
    have qhd:1<D.length→b1.toNat≠48:=fun h=>by
      have h5:=qh (qh1 h)
      match D,qpos,hd,h5 with
      |b::D',_,hd,h5=>rw[qd1]at hd;injection hd with e1 _;rw[e1];simpa using h5
    have qr2:=hr
    unfold ND at qr2
    rcases(show D.length=1∨1<D.length by omega)with qlen|qlen
    · rcases qr2 with qr2|⟨b,r',qr2,qr3|qr3⟩
      · have qe:P+D.length=s.length:=by rw[qr2]at qsl;simp at qsl;omega
        replace hb1:=hb1.mono hE
        refine WC.seq<|WC.seq<|WC.regionD [(true,0),(true,1),(true,2),(true,3),(true,4),(true,5),(true,6),(true,7),(true,8),(true,9),(true,10),(true,11),(true,12),(true,13),(true,14),(true,15),(true,16),(true,17),(true,18),(true,19),(true,20),(true,21),(true,22),(true,23),(true,24),(true,25),(true,26),(true,27),(true,28),(true,29),(true,30),(true,31),(true,32),(true,33)] (Ext _) mixed (by kernel_rfl) (Ext.drew _) ?_
        have nd1wi1:wi1.drew.heap.size=wi1.heap.size:=rfl
        refine WD.q rfl (fun _ hS=>r_move rfl) ?_
        refine WD.q rfl (fun _ hS=>r_nilp rfl) ?_
        refine WD.q rfl (fun _ hS=>r_fieldAddr rfl fo_61_1) ?_
        refine WD.q rfl (fun _ hS=>r_load one_3 rfl hS (hK3.get rfl)) ?_
        refine WD.q rfl (fun _ hS=>r_move rfl) ?_
        refine WD.q rfl (fun _ hS=>r_nilp rfl) ?_
        refine WD.q rfl (fun _ hS=>r_fieldAddr rfl fo_61_0) ?_
        refine WD.q rfl (fun _ hS=>r_load one_9 rfl hS (hK3.get rfl)) ?_
        refine WD.q rfl (fun _ hS=>r_lens str_9 rfl) ?_
        refine WD.q rfl (fun _ hS=>r_cmp (r_lss rfl rfl) (decide_eq_false (by(omega)))) ?_
        refine WD.q rfl (fun _ hS=>r_move rfl) ?_
        refine WD.sk rfl rfl rfl rfl rfl ?_
        refine WD.sk rfl rfl rfl rfl rfl ?_
        refine WD.sk rfl rfl rfl rfl rfl ?_
        refine WD.sk rfl rfl rfl rfl rfl ?_
        refine WD.sk rfl rfl rfl rfl rfl ?_
        refine WD.sk rfl rfl rfl rfl rfl ?_
        refine WD.sk rfl rfl rfl rfl rfl ?_
        refine WD.sk rfl rfl rfl rfl rfl ?_
        refine WD.sk rfl rfl rfl rfl rfl ?_
        refine WD.sk rfl rfl rfl rfl rfl ?_
        refine WD.q rfl (fun _ hS=>r_pick rfl rfl rfl) ?_
        refine WD.q rfl (fun _ hS=>r_move rfl) ?_
        refine WD.sk rfl rfl rfl rfl rfl ?_
        refine WD.sk rfl rfl rfl rfl rfl ?_
        refine WD.sk rfl rfl rfl rfl rfl ?_
        refine WD.sk rfl rfl rfl rfl rfl ?_
        refine WD.sk rfl rfl rfl rfl rfl ?_
        refine WD.sk rfl rfl rfl rfl rfl ?_
        refine WD.sk rfl rfl rfl rfl rfl ?_
        refine WD.sk rfl rfl rfl rfl rfl ?_
        refine WD.sk rfl rfl rfl rfl rfl ?_
        refine WD.sk rfl rfl rfl rfl rfl ?_
        refine WD.q rfl (fun _ hS=>r_pick rfl rfl rfl) ?_
        refine WD.nil ?_
        refine WC.condF rfl ?_
        refine WC.exit ?_
        refine WC.seq<|WC.seq<|WC.region ?_
        refine WL.q rfl (r_move rfl) ?_
        refine WL.q rfl (r_nilp rfl) ?_
        refine WL.q rfl (r_fieldAddr rfl fo_61_1) ?_
        replace hK3:=hK3.mono (Ext.drew _)
        refine WL.q rfl (r_load one_3 rfl (Ext.refl _) (hK3.get rfl)) ?_
        refine WL.q rfl (r_move rfl) ?_
        refine WL.q rfl (r_cmp (r_eql rfl rfl) (beqF (by(omega)))) ?_
        refine WL.q rfl (r_move rfl) ?_
        refine WL.qg rfl rfl rfl rfl (r_move rfl) ?_
        refine WL.qg rfl rfl rfl rfl (r_nilp rfl) ?_
        refine WL.qg rfl rfl rfl rfl (r_fieldAddr rfl fo_61_1) ?_
        refine WL.qg rfl rfl rfl rfl (r_load one_3 rfl (Ext.refl _) (hK3.get rfl)) ?_
        refine WL.qg rfl rfl rfl rfl (r_move rfl) ?_
        refine WL.qg rfl rfl rfl rfl (r_subi rfl rfl rfl (by omega) (by omega)) ?_
        refine WL.qg rfl rfl rfl rfl (r_cmp (r_gtr rfl rfl) (decide_eq_false (by(omega)))) ?_
        refine WL.qg rfl rfl rfl rfl (r_move rfl) ?_
        refine WL.sk rfl rfl rfl rfl rfl ?_
        refine WL.sk rfl rfl rfl rfl rfl ?_
        refine WL.sk rfl rfl rfl rfl rfl ?_
        refine WL.sk rfl rfl rfl rfl rfl ?_
        refine WL.sk rfl rfl rfl rfl rfl ?_
        refine WL.sk rfl rfl rfl rfl rfl ?_
        refine WL.sk rfl rfl rfl rfl rfl ?_
        refine WL.qg rfl rfl rfl rfl (r_pick rfl rfl rfl) ?_
        refine WL.q rfl (r_pick rfl rfl rfl) ?_
        refine WL.q rfl (r_move rfl) ?_
        refine WL.qg rfl rfl rfl rfl (r_move rfl) ?_
        refine WL.qg rfl rfl rfl rfl (r_move rfl) ?_
        refine WL.sk rfl rfl rfl rfl rfl ?_
        refine WL.sk rfl rfl rfl rfl rfl ?_
        refine WL.qg rfl rfl rfl rfl (r_pick rfl rfl rfl) ?_
        refine WL.q rfl (r_pick rfl rfl rfl) ?_
        refine WL.nil ?_
        refine WC.condF rfl ?_
        refine WC.skip ?_
        refine WC.seq<|WC.seq<|WC.region ?_
        refine WL.q rfl (r_move rfl) ?_
        refine WL.nil ?_
        refine WC.condF rfl ?_
        refine WC.skip ?_
        refine WC.seq<|WC.region ?_
        refine WL.q rfl (r_move rfl) ?_
        refine WL.q rfl (r_bld (cs:=[_,_,_,_,_]) bld_25 rfl rfl) ?_
        replace hb1:=hb1.mono (Ext.drew _)
        refine WL.l0 (l_storeW sz_25 rfl rfl (by first|rfl|assumption|(simp[*];done)|simp[Value.oneCell', *]) (by first|rfl|simp[*]) hb1 (by first|rfl|simp[*])) fun _ w3 hh=>?_
        obtain⟨hb1,e3,hz3⟩:=hh
        have ns3:wi1.heap.size≤w3.heap.size:=e3.size
        refine WL.nil ?_
        refine WC.ret ?_
        replace hK3:=hK3.mono e3
        replace he:=((he.then hE).then (Ext.drew _)).then e3
        exact finC rfl hb1 rfl ⟨⟨_,rfl,rfl,rfl,rep0⟩,Jc hK3 (by omega),he⟩
      · obtain⟨qp,qgx,_⟩:=drop_c (qdr.trans qr2)
        replace hb1:=hb1.mono hE
        refine WC.seq<|WC.seq<|WC.regionD [(true,0),(true,1),(true,2),(true,3),(true,4),(true,5),(true,6),(true,7),(true,8),(true,9),(true,10),(true,11),(true,12),(true,13),(true,14),(true,15),(true,16),(true,17),(true,18),(true,19),(true,20),(true,21),(true,22),(true,23),(true,24),(true,25),(true,26),(true,27),(true,28),(true,29),(true,30),(true,31),(true,32),(true,33)] (Ext _) mixed (by kernel_rfl) (Ext.drew _) ?_
        have nd1wi1:wi1.drew.heap.size=wi1.heap.size:=rfl
        refine WD.q rfl (fun _ hS=>r_move rfl) ?_
        refine WD.q rfl (fun _ hS=>r_nilp rfl) ?_
        refine WD.q rfl (fun _ hS=>r_fieldAddr rfl fo_61_1) ?_
        refine WD.q rfl (fun _ hS=>r_load one_3 rfl hS (hK3.get rfl)) ?_
        refine WD.q rfl (fun _ hS=>r_move rfl) ?_
        refine WD.q rfl (fun _ hS=>r_nilp rfl) ?_
        refine WD.q rfl (fun _ hS=>r_fieldAddr rfl fo_61_0) ?_
        refine WD.q rfl (fun _ hS=>r_load one_9 rfl hS (hK3.get rfl)) ?_
        refine WD.q rfl (fun _ hS=>r_lens str_9 rfl) ?_
        refine WD.q rfl (fun _ hS=>r_cmp (r_lss rfl rfl) (decide_eq_true (by(omega)))) ?_
        refine WD.q rfl (fun _ hS=>r_move rfl) ?_
        refine WD.qg rfl rfl rfl rfl (fun _ hS=>r_move rfl) ?_
        refine WD.qg rfl rfl rfl rfl (fun _ hS=>r_nilp rfl) ?_
        refine WD.qg rfl rfl rfl rfl (fun _ hS=>r_fieldAddr rfl fo_61_0) ?_
        refine WD.qg rfl rfl rfl rfl (fun _ hS=>r_load one_9 rfl hS (hK3.get rfl)) ?_
        refine WD.qg rfl rfl rfl rfl (fun _ hS=>r_move rfl) ?_
        refine WD.qg rfl rfl rfl rfl (fun _ hS=>r_nilp rfl) ?_
        refine WD.qg rfl rfl rfl rfl (fun _ hS=>r_fieldAddr rfl fo_61_1) ?_
        refine WD.qg rfl rfl rfl rfl (fun _ hS=>r_load one_3 rfl hS (hK3.get rfl)) ?_
        refine WD.qg rfl rfl rfl rfl (fun _ hS=>r_idxs str_9 rfl rfl rfl (by assumption)) ?_
        refine WD.qg rfl rfl rfl rfl (fun _ hS=>r_cmp (r_geq rfl rfl) (decide_eq_false (by(omega)))) ?_
        refine WD.q rfl (fun _ hS=>r_pick rfl rfl rfl) ?_
        refine WD.q rfl (fun _ hS=>r_move rfl) ?_
        refine WD.sk rfl rfl rfl rfl rfl ?_
        refine WD.sk rfl rfl rfl rfl rfl ?_
        refine WD.sk rfl rfl rfl rfl rfl ?_
        refine WD.sk rfl rfl rfl rfl rfl ?_
        refine WD.sk rfl rfl rfl rfl rfl ?_
        refine WD.sk rfl rfl rfl rfl rfl ?_
        refine WD.sk rfl rfl rfl rfl rfl ?_
        refine WD.sk rfl rfl rfl rfl rfl ?_
        refine WD.sk rfl rfl rfl rfl rfl ?_
        refine WD.sk rfl rfl rfl rfl rfl ?_
        refine WD.q rfl (fun _ hS=>r_pick rfl rfl rfl) ?_
        refine WD.nil ?_
        refine WC.condF rfl ?_
        refine WC.exit ?_
        refine WC.seq<|WC.seq<|WC.region ?_
        refine WL.q rfl (r_move rfl) ?_
        refine WL.q rfl (r_nilp rfl) ?_
        refine WL.q rfl (r_fieldAddr rfl fo_61_1) ?_
        replace hK3:=hK3.mono (Ext.drew _)
        refine WL.q rfl (r_load one_3 rfl (Ext.refl _) (hK3.get rfl)) ?_
        refine WL.q rfl (r_move rfl) ?_
        refine WL.q rfl (r_cmp (r_eql rfl rfl) (beqF (by(omega)))) ?_
        refine WL.q rfl (r_move rfl) ?_
        refine WL.qg rfl rfl rfl rfl (r_move rfl) ?_
        refine WL.qg rfl rfl rfl rfl (r_nilp rfl) ?_
        refine WL.qg rfl rfl rfl rfl (r_fieldAddr rfl fo_61_1) ?_
        refine WL.qg rfl rfl rfl rfl (r_load one_3 rfl (Ext.refl _) (hK3.get rfl)) ?_
        refine WL.qg rfl rfl rfl rfl (r_move rfl) ?_
        refine WL.qg rfl rfl rfl rfl (r_subi rfl rfl rfl (by omega) (by omega)) ?_
        refine WL.qg rfl rfl rfl rfl (r_cmp (r_gtr rfl rfl) (decide_eq_false (by(omega)))) ?_
        refine WL.qg rfl rfl rfl rfl (r_move rfl) ?_
        refine WL.sk rfl rfl rfl rfl rfl ?_
        refine WL.sk rfl rfl rfl rfl rfl ?_
        refine WL.sk rfl rfl rfl rfl rfl ?_
        refine WL.sk rfl rfl rfl rfl rfl ?_
        refine WL.sk rfl rfl rfl rfl rfl ?_
        refine WL.sk rfl rfl rfl rfl rfl ?_
        refine WL.sk rfl rfl rfl rfl rfl ?_
        refine WL.qg rfl rfl rfl rfl (r_pick rfl rfl rfl) ?_
        refine WL.q rfl (r_pick rfl rfl rfl) ?_
        refine WL.q rfl (r_move rfl) ?_
        refine WL.qg rfl rfl rfl rfl (r_move rfl) ?_
        refine WL.qg rfl rfl rfl rfl (r_move rfl) ?_
        refine WL.sk rfl rfl rfl rfl rfl ?_
        refine WL.sk rfl rfl rfl rfl rfl ?_
        refine WL.qg rfl rfl rfl rfl (r_pick rfl rfl rfl) ?_
        refine WL.q rfl (r_pick rfl rfl rfl) ?_
        refine WL.nil ?_
        refine WC.condF rfl ?_
        refine WC.skip ?_
        refine WC.seq<|WC.seq<|WC.region ?_
        refine WL.q rfl (r_move rfl) ?_
        refine WL.nil ?_
        refine WC.condF rfl ?_
        refine WC.skip ?_
        refine WC.seq<|WC.region ?_
        refine WL.q rfl (r_move rfl) ?_
        refine WL.q rfl (r_bld (cs:=[_,_,_,_,_]) bld_25 rfl rfl) ?_
        replace hb1:=hb1.mono (Ext.drew _)
        refine WL.l0 (l_storeW sz_25 rfl rfl (by first|rfl|assumption|(simp[*];done)|simp[Value.oneCell', *]) (by first|rfl|simp[*]) hb1 (by first|rfl|simp[*])) fun _ w3 hh=>?_
        obtain⟨hb1,e3,hz3⟩:=hh
        have ns3:wi1.heap.size≤w3.heap.size:=e3.size
        refine WL.nil ?_
        refine WC.ret ?_
        replace hK3:=hK3.mono e3
        replace he:=((he.then hE).then (Ext.drew _)).then e3
        exact finC rfl hb1 rfl ⟨⟨_,rfl,rfl,rfl,rep0⟩,Jc hK3 (by omega),he⟩
      · obtain⟨qp,qgx,_⟩:=drop_c (qdr.trans qr2)
        replace hb1:=hb1.mono hE
        refine WC.seq<|WC.seq<|WC.regionD [(true,0),(true,1),(true,2),(true,3),(true,4),(true,5),(true,6),(true,7),(true,8),(true,9),(true,10),(true,11),(true,12),(true,13),(true,14),(true,15),(true,16),(true,17),(true,18),(true,19),(true,20),(true,21),(true,22),(true,23),(true,24),(true,25),(true,26),(true,27),(true,28),(true,29),(true,30),(true,31),(true,32),(true,33)] (Ext _) mixed (by kernel_rfl) (Ext.drew _) ?_
        have nd1wi1:wi1.drew.heap.size=wi1.heap.size:=rfl
        refine WD.q rfl (fun _ hS=>r_move rfl) ?_
        refine WD.q rfl (fun _ hS=>r_nilp rfl) ?_
        refine WD.q rfl (fun _ hS=>r_fieldAddr rfl fo_61_1) ?_
        refine WD.q rfl (fun _ hS=>r_load one_3 rfl hS (hK3.get rfl)) ?_
        refine WD.q rfl (fun _ hS=>r_move rfl) ?_
        refine WD.q rfl (fun _ hS=>r_nilp rfl) ?_
        refine WD.q rfl (fun _ hS=>r_fieldAddr rfl fo_61_0) ?_
        refine WD.q rfl (fun _ hS=>r_load one_9 rfl hS (hK3.get rfl)) ?_
        refine WD.q rfl (fun _ hS=>r_lens str_9 rfl) ?_
        refine WD.q rfl (fun _ hS=>r_cmp (r_lss rfl rfl) (decide_eq_true (by(omega)))) ?_
        refine WD.q rfl (fun _ hS=>r_move rfl) ?_
        refine WD.qg rfl rfl rfl rfl (fun _ hS=>r_move rfl) ?_
        refine WD.qg rfl rfl rfl rfl (fun _ hS=>r_nilp rfl) ?_
        refine WD.qg rfl rfl rfl rfl (fun _ hS=>r_fieldAddr rfl fo_61_0) ?_
        refine WD.qg rfl rfl rfl rfl (fun _ hS=>r_load one_9 rfl hS (hK3.get rfl)) ?_
        refine WD.qg rfl rfl rfl rfl (fun _ hS=>r_move rfl) ?_
        refine WD.qg rfl rfl rfl rfl (fun _ hS=>r_nilp rfl) ?_
        refine WD.qg rfl rfl rfl rfl (fun _ hS=>r_fieldAddr rfl fo_61_1) ?_
        refine WD.qg rfl rfl rfl rfl (fun _ hS=>r_load one_3 rfl hS (hK3.get rfl)) ?_
        refine WD.qg rfl rfl rfl rfl (fun _ hS=>r_idxs str_9 rfl rfl rfl (by assumption)) ?_
        refine WD.qg rfl rfl rfl rfl (fun _ hS=>r_cmp (r_geq rfl rfl) (decide_eq_true (by(omega)))) ?_
        refine WD.q rfl (fun _ hS=>r_pick rfl rfl rfl) ?_
        refine WD.q rfl (fun _ hS=>r_move rfl) ?_
        refine WD.qg rfl rfl rfl rfl (fun _ hS=>r_move rfl) ?_
        refine WD.qg rfl rfl rfl rfl (fun _ hS=>r_nilp rfl) ?_
        refine WD.qg rfl rfl rfl rfl (fun _ hS=>r_fieldAddr rfl fo_61_0) ?_
        refine WD.qg rfl rfl rfl rfl (fun _ hS=>r_load one_9 rfl hS (hK3.get rfl)) ?_
        refine WD.qg rfl rfl rfl rfl (fun _ hS=>r_move rfl) ?_
        refine WD.qg rfl rfl rfl rfl (fun _ hS=>r_nilp rfl) ?_
        refine WD.qg rfl rfl rfl rfl (fun _ hS=>r_fieldAddr rfl fo_61_1) ?_
        refine WD.qg rfl rfl rfl rfl (fun _ hS=>r_load one_3 rfl hS (hK3.get rfl)) ?_
        refine WD.qg rfl rfl rfl rfl (fun _ hS=>r_idxs str_9 rfl rfl rfl (by assumption)) ?_
        refine WD.qg rfl rfl rfl rfl (fun _ hS=>r_cmp (r_leq rfl rfl) (decide_eq_false (by(omega)))) ?_
        refine WD.q rfl (fun _ hS=>r_pick rfl rfl rfl) ?_
        refine WD.nil ?_
        refine WC.condF rfl ?_
        refine WC.exit ?_
        refine WC.seq<|WC.seq<|WC.region ?_
        refine WL.q rfl (r_move rfl) ?_
        refine WL.q rfl (r_nilp rfl) ?_
        refine WL.q rfl (r_fieldAddr rfl fo_61_1) ?_
        replace hK3:=hK3.mono (Ext.drew _)
        refine WL.q rfl (r_load one_3 rfl (Ext.refl _) (hK3.get rfl)) ?_
        refine WL.q rfl (r_move rfl) ?_
        refine WL.q rfl (r_cmp (r_eql rfl rfl) (beqF (by(omega)))) ?_
        refine WL.q rfl (r_move rfl) ?_
        refine WL.qg rfl rfl rfl rfl (r_move rfl) ?_
        refine WL.qg rfl rfl rfl rfl (r_nilp rfl) ?_
        refine WL.qg rfl rfl rfl rfl (r_fieldAddr rfl fo_61_1) ?_
        refine WL.qg rfl rfl rfl rfl (r_load one_3 rfl (Ext.refl _) (hK3.get rfl)) ?_
        refine WL.qg rfl rfl rfl rfl (r_move rfl) ?_
        refine WL.qg rfl rfl rfl rfl (r_subi rfl rfl rfl (by omega) (by omega)) ?_
        refine WL.qg rfl rfl rfl rfl (r_cmp (r_gtr rfl rfl) (decide_eq_false (by(omega)))) ?_
        refine WL.qg rfl rfl rfl rfl (r_move rfl) ?_
        refine WL.sk rfl rfl rfl rfl rfl ?_
        refine WL.sk rfl rfl rfl rfl rfl ?_
        refine WL.sk rfl rfl rfl rfl rfl ?_
        refine WL.sk rfl rfl rfl rfl rfl ?_
        refine WL.sk rfl rfl rfl rfl rfl ?_
        refine WL.sk rfl rfl rfl rfl rfl ?_
        refine WL.sk rfl rfl rfl rfl rfl ?_
        refine WL.qg rfl rfl rfl rfl (r_pick rfl rfl rfl) ?_
        refine WL.q rfl (r_pick rfl rfl rfl) ?_
        refine WL.q rfl (r_move rfl) ?_
        refine WL.qg rfl rfl rfl rfl (r_move rfl) ?_
        refine WL.qg rfl rfl rfl rfl (r_move rfl) ?_
        refine WL.sk rfl rfl rfl rfl rfl ?_
        refine WL.sk rfl rfl rfl rfl rfl ?_
        refine WL.qg rfl rfl rfl rfl (r_pick rfl rfl rfl) ?_
        refine WL.q rfl (r_pick rfl rfl rfl) ?_
        refine WL.nil ?_
        refine WC.condF rfl ?_
        refine WC.skip ?_
        refine WC.seq<|WC.seq<|WC.region ?_
        refine WL.q rfl (r_move rfl) ?_
        refine WL.nil ?_
        refine WC.condF rfl ?_
        refine WC.skip ?_
        refine WC.seq<|WC.region ?_
        refine WL.q rfl (r_move rfl) ?_
        refine WL.q rfl (r_bld (cs:=[_,_,_,_,_]) bld_25 rfl rfl) ?_
        replace hb1:=hb1.mono (Ext.drew _)
        refine WL.l0 (l_storeW sz_25 rfl rfl (by first|rfl|assumption|(simp[*];done)|simp[Value.oneCell', *]) (by first|rfl|simp[*]) hb1 (by first|rfl|simp[*])) fun _ w3 hh=>?_
        obtain⟨hb1,e3,hz3⟩:=hh
        have ns3:wi1.heap.size≤w3.heap.size:=e3.size
        refine WL.nil ?_
        refine WC.ret ?_
        replace hK3:=hK3.mono e3
        replace he:=((he.then hE).then (Ext.drew _)).then e3
        exact finC rfl hb1 rfl ⟨⟨_,rfl,rfl,rfl,rep0⟩,Jc hK3 (by omega),he⟩
    · rcases qr2 with qr2|⟨b,r',qr2,qr3|qr3⟩
      · have qe:P+D.length=s.length:=by rw[qr2]at qsl;simp at qsl;omega
        replace hb1:=hb1.mono hE
        refine WC.seq<|WC.seq<|WC.regionD [(true,0),(true,1),(true,2),(true,3),(true,4),(true,5),(true,6),(true,7),(true,8),(true,9),(true,10),(true,11),(true,12),(true,13),(true,14),(true,15),(true,16),(true,17),(true,18),(true,19),(true,20),(true,21),(true,22),(true,23),(true,24),(true,25),(true,26),(true,27),(true,28),(true,29),(true,30),(true,31),(true,32),(true,33)] (Ext _) mixed (by kernel_rfl) (Ext.drew _) ?_
        have nd1wi1:wi1.drew.heap.size=wi1.heap.size:=rfl
        refine WD.q rfl (fun _ hS=>r_move rfl) ?_
        refine WD.q rfl (fun _ hS=>r_nilp rfl) ?_
        refine WD.q rfl (fun _ hS=>r_fieldAddr rfl fo_61_1) ?_
        refine WD.q rfl (fun _ hS=>r_load one_3 rfl hS (hK3.get rfl)) ?_
        refine WD.q rfl (fun _ hS=>r_move rfl) ?_
        refine WD.q rfl (fun _ hS=>r_nilp rfl) ?_
        refine WD.q rfl (fun _ hS=>r_fieldAddr rfl fo_61_0) ?_
        refine WD.q rfl (fun _ hS=>r_load one_9 rfl hS (hK3.get rfl)) ?_
        refine WD.q rfl (fun _ hS=>r_lens str_9 rfl) ?_
        refine WD.q rfl (fun _ hS=>r_cmp (r_lss rfl rfl) (decide_eq_false (by(omega)))) ?_
        refine WD.q rfl (fun _ hS=>r_move rfl) ?_
        refine WD.sk rfl rfl rfl rfl rfl ?_
        refine WD.sk rfl rfl rfl rfl rfl ?_
        refine WD.sk rfl rfl rfl rfl rfl ?_
        refine WD.sk rfl rfl rfl rfl rfl ?_
        refine WD.sk rfl rfl rfl rfl rfl ?_
        refine WD.sk rfl rfl rfl rfl rfl ?_
        refine WD.sk rfl rfl rfl rfl rfl ?_
        refine WD.sk rfl rfl rfl rfl rfl ?_
        refine WD.sk rfl rfl rfl rfl rfl ?_
        refine WD.sk rfl rfl rfl rfl rfl ?_
        refine WD.q rfl (fun _ hS=>r_pick rfl rfl rfl) ?_
        refine WD.q rfl (fun _ hS=>r_move rfl) ?_
        refine WD.sk rfl rfl rfl rfl rfl ?_
        refine WD.sk rfl rfl rfl rfl rfl ?_
        refine WD.sk rfl rfl rfl rfl rfl ?_
        refine WD.sk rfl rfl rfl rfl rfl ?_
        refine WD.sk rfl rfl rfl rfl rfl ?_
        refine WD.sk rfl rfl rfl rfl rfl ?_
        refine WD.sk rfl rfl rfl rfl rfl ?_
        refine WD.sk rfl rfl rfl rfl rfl ?_
        refine WD.sk rfl rfl rfl rfl rfl ?_
        refine WD.sk rfl rfl rfl rfl rfl ?_
        refine WD.q rfl (fun _ hS=>r_pick rfl rfl rfl) ?_
        refine WD.nil ?_
        refine WC.condF rfl ?_
        refine WC.exit ?_
        refine WC.seq<|WC.seq<|WC.region ?_
        refine WL.q rfl (r_move rfl) ?_
        refine WL.q rfl (r_nilp rfl) ?_
        refine WL.q rfl (r_fieldAddr rfl fo_61_1) ?_
        replace hK3:=hK3.mono (Ext.drew _)
        refine WL.q rfl (r_load one_3 rfl (Ext.refl _) (hK3.get rfl)) ?_
        refine WL.q rfl (r_move rfl) ?_
        refine WL.q rfl (r_cmp (r_eql rfl rfl) (beqF (by(omega)))) ?_
        refine WL.q rfl (r_move rfl) ?_
        refine WL.qg rfl rfl rfl rfl (r_move rfl) ?_
        refine WL.qg rfl rfl rfl rfl (r_nilp rfl) ?_
        refine WL.qg rfl rfl rfl rfl (r_fieldAddr rfl fo_61_1) ?_
        refine WL.qg rfl rfl rfl rfl (r_load one_3 rfl (Ext.refl _) (hK3.get rfl)) ?_
        refine WL.qg rfl rfl rfl rfl (r_move rfl) ?_
        refine WL.qg rfl rfl rfl rfl (r_subi rfl rfl rfl (by omega) (by omega)) ?_
        refine WL.qg rfl rfl rfl rfl (r_cmp (r_gtr rfl rfl) (decide_eq_true (by(omega)))) ?_
        refine WL.qg rfl rfl rfl rfl (r_move rfl) ?_
        refine WL.qg rfl rfl rfl rfl (r_move rfl) ?_
        refine WL.qg rfl rfl rfl rfl (r_nilp rfl) ?_
        refine WL.qg rfl rfl rfl rfl (r_fieldAddr rfl fo_61_0) ?_
        refine WL.qg rfl rfl rfl rfl (r_load one_9 rfl (Ext.refl _) (hK3.get rfl)) ?_
        refine WL.qg rfl rfl rfl rfl (r_move rfl) ?_
        refine WL.qg rfl rfl rfl rfl (r_idxs (j:=P) str_9 rfl rfl (by omega) qg0) ?_
        refine WL.qg rfl rfl rfl rfl (r_cmp (r_eql rfl rfl) (beqF (by(have:=qhd qlen;omega)))) ?_
        refine WL.qg rfl rfl rfl rfl (r_pick rfl rfl rfl) ?_
        refine WL.q rfl (r_pick rfl rfl rfl) ?_
        refine WL.q rfl (r_move rfl) ?_
        refine WL.qg rfl rfl rfl rfl (r_move rfl) ?_
        refine WL.qg rfl rfl rfl rfl (r_move rfl) ?_
        refine WL.sk rfl rfl rfl rfl rfl ?_
        refine WL.sk rfl rfl rfl rfl rfl ?_
        refine WL.qg rfl rfl rfl rfl (r_pick rfl rfl rfl) ?_
        refine WL.q rfl (r_pick rfl rfl rfl) ?_
        refine WL.nil ?_
        refine WC.condF rfl ?_
        refine WC.skip ?_
        refine WC.seq<|WC.seq<|WC.region ?_
        refine WL.q rfl (r_move rfl) ?_
        refine WL.nil ?_
        refine WC.condF rfl ?_
        refine WC.skip ?_
        refine WC.seq<|WC.region ?_
        refine WL.q rfl (r_move rfl) ?_
        refine WL.q rfl (r_bld (cs:=[_,_,_,_,_]) bld_25 rfl rfl) ?_
        replace hb1:=hb1.mono (Ext.drew _)
        refine WL.l0 (l_storeW sz_25 rfl rfl (by first|rfl|assumption|(simp[*];done)|simp[Value.oneCell', *]) (by first|rfl|simp[*]) hb1 (by first|rfl|simp[*])) fun _ w3 hh=>?_
        obtain⟨hb1,e3,hz3⟩:=hh
        have ns3:wi1.heap.size≤w3.heap.size:=e3.size
        refine WL.nil ?_
        refine WC.ret ?_
        replace hK3:=hK3.mono e3
        replace he:=((he.then hE).then (Ext.drew _)).then e3
        exact finC rfl hb1 rfl ⟨⟨_,rfl,rfl,rfl,rep0⟩,Jc hK3 (by omega),he⟩
      · obtain⟨qp,qgx,_⟩:=drop_c (qdr.trans qr2)
        replace hb1:=hb1.mono hE
        refine WC.seq<|WC.seq<|WC.regionD [(true,0),(true,1),(true,2),(true,3),(true,4),(true,5),(true,6),(true,7),(true,8),(true,9),(true,10),(true,11),(true,12),(true,13),(true,14),(true,15),(true,16),(true,17),(true,18),(true,19),(true,20),(true,21),(true,22),(true,23),(true,24),(true,25),(true,26),(true,27),(true,28),(true,29),(true,30),(true,31),(true,32),(true,33)] (Ext _) mixed (by kernel_rfl) (Ext.drew _) ?_
        have nd1wi1:wi1.drew.heap.size=wi1.heap.size:=rfl
        refine WD.q rfl (fun _ hS=>r_move rfl) ?_
        refine WD.q rfl (fun _ hS=>r_nilp rfl) ?_
        refine WD.q rfl (fun _ hS=>r_fieldAddr rfl fo_61_1) ?_
        refine WD.q rfl (fun _ hS=>r_load one_3 rfl hS (hK3.get rfl)) ?_
        refine WD.q rfl (fun _ hS=>r_move rfl) ?_
        refine WD.q rfl (fun _ hS=>r_nilp rfl) ?_
        refine WD.q rfl (fun _ hS=>r_fieldAddr rfl fo_61_0) ?_
        refine WD.q rfl (fun _ hS=>r_load one_9 rfl hS (hK3.get rfl)) ?_
        refine WD.q rfl (fun _ hS=>r_lens str_9 rfl) ?_
        refine WD.q rfl (fun _ hS=>r_cmp (r_lss rfl rfl) (decide_eq_true (by(omega)))) ?_
        refine WD.q rfl (fun _ hS=>r_move rfl) ?_
        refine WD.qg rfl rfl rfl rfl (fun _ hS=>r_move rfl) ?_
        refine WD.qg rfl rfl rfl rfl (fun _ hS=>r_nilp rfl) ?_
        refine WD.qg rfl rfl rfl rfl (fun _ hS=>r_fieldAddr rfl fo_61_0) ?_
        refine WD.qg rfl rfl rfl rfl (fun _ hS=>r_load one_9 rfl hS (hK3.get rfl)) ?_
        refine WD.qg rfl rfl rfl rfl (fun _ hS=>r_move rfl) ?_
        refine WD.qg rfl rfl rfl rfl (fun _ hS=>r_nilp rfl) ?_
        refine WD.qg rfl rfl rfl rfl (fun _ hS=>r_fieldAddr rfl fo_61_1) ?_
        refine WD.qg rfl rfl rfl rfl (fun _ hS=>r_load one_3 rfl hS (hK3.get rfl)) ?_
        refine WD.qg rfl rfl rfl rfl (fun _ hS=>r_idxs str_9 rfl rfl rfl (by assumption)) ?_
        refine WD.qg rfl rfl rfl rfl (fun _ hS=>r_cmp (r_geq rfl rfl) (decide_eq_false (by(omega)))) ?_
        refine WD.q rfl (fun _ hS=>r_pick rfl rfl rfl) ?_
        refine WD.q rfl (fun _ hS=>r_move rfl) ?_
        refine WD.sk rfl rfl rfl rfl rfl ?_
        refine WD.sk rfl rfl rfl rfl rfl ?_
        refine WD.sk rfl rfl rfl rfl rfl ?_
        refine WD.sk rfl rfl rfl rfl rfl ?_
        refine WD.sk rfl rfl rfl rfl rfl ?_
        refine WD.sk rfl rfl rfl rfl rfl ?_
        refine WD.sk rfl rfl rfl rfl rfl ?_
        refine WD.sk rfl rfl rfl rfl rfl ?_
        refine WD.sk rfl rfl rfl rfl rfl ?_
        refine WD.sk rfl rfl rfl rfl rfl ?_
        refine WD.q rfl (fun _ hS=>r_pick rfl rfl rfl) ?_
        refine WD.nil ?_
        refine WC.condF rfl ?_
        refine WC.exit ?_
        refine WC.seq<|WC.seq<|WC.region ?_
        refine WL.q rfl (r_move rfl) ?_
        refine WL.q rfl (r_nilp rfl) ?_
        refine WL.q rfl (r_fieldAddr rfl fo_61_1) ?_
        replace hK3:=hK3.mono (Ext.drew _)
        refine WL.q rfl (r_load one_3 rfl (Ext.refl _) (hK3.get rfl)) ?_
        refine WL.q rfl (r_move rfl) ?_
        refine WL.q rfl (r_cmp (r_eql rfl rfl) (beqF (by(omega)))) ?_
        refine WL.q rfl (r_move rfl) ?_
        refine WL.qg rfl rfl rfl rfl (r_move rfl) ?_
        refine WL.qg rfl rfl rfl rfl (r_nilp rfl) ?_
        refine WL.qg rfl rfl rfl rfl (r_fieldAddr rfl fo_61_1) ?_
        refine WL.qg rfl rfl rfl rfl (r_load one_3 rfl (Ext.refl _) (hK3.get rfl)) ?_
        refine WL.qg rfl rfl rfl rfl (r_move rfl) ?_
        refine WL.qg rfl rfl rfl rfl (r_subi rfl rfl rfl (by omega) (by omega)) ?_
        refine WL.qg rfl rfl rfl rfl (r_cmp (r_gtr rfl rfl) (decide_eq_true (by(omega)))) ?_
        refine WL.qg rfl rfl rfl rfl (r_move rfl) ?_
        refine WL.qg rfl rfl rfl rfl (r_move rfl) ?_
        refine WL.qg rfl rfl rfl rfl (r_nilp rfl) ?_
        refine WL.qg rfl rfl rfl rfl (r_fieldAddr rfl fo_61_0) ?_
        refine WL.qg rfl rfl rfl rfl (r_load one_9 rfl (Ext.refl _) (hK3.get rfl)) ?_
        refine WL.qg rfl rfl rfl rfl (r_move rfl) ?_
        refine WL.qg rfl rfl rfl rfl (r_idxs (j:=P) str_9 rfl rfl (by omega) qg0) ?_
        refine WL.qg rfl rfl rfl rfl (r_cmp (r_eql rfl rfl) (beqF (by(have:=qhd qlen;omega)))) ?_
        refine WL.qg rfl rfl rfl rfl (r_pick rfl rfl rfl) ?_
        refine WL.q rfl (r_pick rfl rfl rfl) ?_
        refine WL.q rfl (r_move rfl) ?_
        refine WL.qg rfl rfl rfl rfl (r_move rfl) ?_
        refine WL.qg rfl rfl rfl rfl (r_move rfl) ?_
        refine WL.sk rfl rfl rfl rfl rfl ?_
        refine WL.sk rfl rfl rfl rfl rfl ?_
        refine WL.qg rfl rfl rfl rfl (r_pick rfl rfl rfl) ?_
        refine WL.q rfl (r_pick rfl rfl rfl) ?_
        refine WL.nil ?_
        refine WC.condF rfl ?_
        refine WC.skip ?_
        refine WC.seq<|WC.seq<|WC.region ?_
        refine WL.q rfl (r_move rfl) ?_
        refine WL.nil ?_
        refine WC.condF rfl ?_
        refine WC.skip ?_
        refine WC.seq<|WC.region ?_
        refine WL.q rfl (r_move rfl) ?_
        refine WL.q rfl (r_bld (cs:=[_,_,_,_,_]) bld_25 rfl rfl) ?_
        replace hb1:=hb1.mono (Ext.drew _)
        refine WL.l0 (l_storeW sz_25 rfl rfl (by first|rfl|assumption|(simp[*];done)|simp[Value.oneCell', *]) (by first|rfl|simp[*]) hb1 (by first|rfl|simp[*])) fun _ w3 hh=>?_
        obtain⟨hb1,e3,hz3⟩:=hh
        have ns3:wi1.heap.size≤w3.heap.size:=e3.size
        refine WL.nil ?_
        refine WC.ret ?_
        replace hK3:=hK3.mono e3
        replace he:=((he.then hE).then (Ext.drew _)).then e3
        exact finC rfl hb1 rfl ⟨⟨_,rfl,rfl,rfl,rep0⟩,Jc hK3 (by omega),he⟩
      · obtain⟨qp,qgx,_⟩:=drop_c (qdr.trans qr2)
        replace hb1:=hb1.mono hE
        refine WC.seq<|WC.seq<|WC.regionD [(true,0),(true,1),(true,2),(true,3),(true,4),(true,5),(true,6),(true,7),(true,8),(true,9),(true,10),(true,11),(true,12),(true,13),(true,14),(true,15),(true,16),(true,17),(true,18),(true,19),(true,20),(true,21),(true,22),(true,23),(true,24),(true,25),(true,26),(true,27),(true,28),(true,29),(true,30),(true,31),(true,32),(true,33)] (Ext _) mixed (by kernel_rfl) (Ext.drew _) ?_
        have nd1wi1:wi1.drew.heap.size=wi1.heap.size:=rfl
        refine WD.q rfl (fun _ hS=>r_move rfl) ?_
        refine WD.q rfl (fun _ hS=>r_nilp rfl) ?_
        refine WD.q rfl (fun _ hS=>r_fieldAddr rfl fo_61_1) ?_
        refine WD.q rfl (fun _ hS=>r_load one_3 rfl hS (hK3.get rfl)) ?_
        refine WD.q rfl (fun _ hS=>r_move rfl) ?_
        refine WD.q rfl (fun _ hS=>r_nilp rfl) ?_
        refine WD.q rfl (fun _ hS=>r_fieldAddr rfl fo_61_0) ?_
        refine WD.q rfl (fun _ hS=>r_load one_9 rfl hS (hK3.get rfl)) ?_
        refine WD.q rfl (fun _ hS=>r_lens str_9 rfl) ?_
        refine WD.q rfl (fun _ hS=>r_cmp (r_lss rfl rfl) (decide_eq_true (by(omega)))) ?_
        refine WD.q rfl (fun _ hS=>r_move rfl) ?_
        refine WD.qg rfl rfl rfl rfl (fun _ hS=>r_move rfl) ?_
        refine WD.qg rfl rfl rfl rfl (fun _ hS=>r_nilp rfl) ?_
        refine WD.qg rfl rfl rfl rfl (fun _ hS=>r_fieldAddr rfl fo_61_0) ?_
        refine WD.qg rfl rfl rfl rfl (fun _ hS=>r_load one_9 rfl hS (hK3.get rfl)) ?_
        refine WD.qg rfl rfl rfl rfl (fun _ hS=>r_move rfl) ?_
        refine WD.qg rfl rfl rfl rfl (fun _ hS=>r_nilp rfl) ?_
        refine WD.qg rfl rfl rfl rfl (fun _ hS=>r_fieldAddr rfl fo_61_1) ?_
        refine WD.qg rfl rfl rfl rfl (fun _ hS=>r_load one_3 rfl hS (hK3.get rfl)) ?_
        refine WD.qg rfl rfl rfl rfl (fun _ hS=>r_idxs str_9 rfl rfl rfl (by assumption)) ?_
        refine WD.qg rfl rfl rfl rfl (fun _ hS=>r_cmp (r_geq rfl rfl) (decide_eq_true (by(omega)))) ?_
        refine WD.q rfl (fun _ hS=>r_pick rfl rfl rfl) ?_
        refine WD.q rfl (fun _ hS=>r_move rfl) ?_
        refine WD.qg rfl rfl rfl rfl (fun _ hS=>r_move rfl) ?_
        refine WD.qg rfl rfl rfl rfl (fun _ hS=>r_nilp rfl) ?_
        refine WD.qg rfl rfl rfl rfl (fun _ hS=>r_fieldAddr rfl fo_61_0) ?_
        refine WD.qg rfl rfl rfl rfl (fun _ hS=>r_load one_9 rfl hS (hK3.get rfl)) ?_
        refine WD.qg rfl rfl rfl rfl (fun _ hS=>r_move rfl) ?_
        refine WD.qg rfl rfl rfl rfl (fun _ hS=>r_nilp rfl) ?_
        refine WD.qg rfl rfl rfl rfl (fun _ hS=>r_fieldAddr rfl fo_61_1) ?_
        refine WD.qg rfl rfl rfl rfl (fun _ hS=>r_load one_3 rfl hS (hK3.get rfl)) ?_
        refine WD.qg rfl rfl rfl rfl (fun _ hS=>r_idxs str_9 rfl rfl rfl (by assumption)) ?_
        refine WD.qg rfl rfl rfl rfl (fun _ hS=>r_cmp (r_leq rfl rfl) (decide_eq_false (by(omega)))) ?_
        refine WD.q rfl (fun _ hS=>r_pick rfl rfl rfl) ?_
        refine WD.nil ?_
        refine WC.condF rfl ?_
        refine WC.exit ?_
        refine WC.seq<|WC.seq<|WC.region ?_
        refine WL.q rfl (r_move rfl) ?_
        refine WL.q rfl (r_nilp rfl) ?_
        refine WL.q rfl (r_fieldAddr rfl fo_61_1) ?_
        replace hK3:=hK3.mono (Ext.drew _)
        refine WL.q rfl (r_load one_3 rfl (Ext.refl _) (hK3.get rfl)) ?_
        refine WL.q rfl (r_move rfl) ?_
        refine WL.q rfl (r_cmp (r_eql rfl rfl) (beqF (by(omega)))) ?_
        refine WL.q rfl (r_move rfl) ?_
        refine WL.qg rfl rfl rfl rfl (r_move rfl) ?_
        refine WL.qg rfl rfl rfl rfl (r_nilp rfl) ?_
        refine WL.qg rfl rfl rfl rfl (r_fieldAddr rfl fo_61_1) ?_
        refine WL.qg rfl rfl rfl rfl (r_load one_3 rfl (Ext.refl _) (hK3.get rfl)) ?_
        refine WL.qg rfl rfl rfl rfl (r_move rfl) ?_
        refine WL.qg rfl rfl rfl rfl (r_subi rfl rfl rfl (by omega) (by omega)) ?_
        refine WL.qg rfl rfl rfl rfl (r_cmp (r_gtr rfl rfl) (decide_eq_true (by(omega)))) ?_
        refine WL.qg rfl rfl rfl rfl (r_move rfl) ?_
        refine WL.qg rfl rfl rfl rfl (r_move rfl) ?_
        refine WL.qg rfl rfl rfl rfl (r_nilp rfl) ?_
        refine WL.qg rfl rfl rfl rfl (r_fieldAddr rfl fo_61_0) ?_
        refine WL.qg rfl rfl rfl rfl (r_load one_9 rfl (Ext.refl _) (hK3.get rfl)) ?_
        refine WL.qg rfl rfl rfl rfl (r_move rfl) ?_
        refine WL.qg rfl rfl rfl rfl (r_idxs (j:=P) str_9 rfl rfl (by omega) qg0) ?_
        refine WL.qg rfl rfl rfl rfl (r_cmp (r_eql rfl rfl) (beqF (by(have:=qhd qlen;omega)))) ?_
        refine WL.qg rfl rfl rfl rfl (r_pick rfl rfl rfl) ?_
        refine WL.q rfl (r_pick rfl rfl rfl) ?_
        refine WL.q rfl (r_move rfl) ?_
        refine WL.qg rfl rfl rfl rfl (r_move rfl) ?_
        refine WL.qg rfl rfl rfl rfl (r_move rfl) ?_
        refine WL.sk rfl rfl rfl rfl rfl ?_
        refine WL.sk rfl rfl rfl rfl rfl ?_
        refine WL.qg rfl rfl rfl rfl (r_pick rfl rfl rfl) ?_
        refine WL.q rfl (r_pick rfl rfl rfl) ?_
        refine WL.nil ?_
        refine WC.condF rfl ?_
        refine WC.skip ?_
        refine WC.seq<|WC.seq<|WC.region ?_
        refine WL.q rfl (r_move rfl) ?_
        refine WL.nil ?_
        refine WC.condF rfl ?_
        refine WC.skip ?_
        refine WC.seq<|WC.region ?_
        refine WL.q rfl (r_move rfl) ?_
        refine WL.q rfl (r_bld (cs:=[_,_,_,_,_]) bld_25 rfl rfl) ?_
        replace hb1:=hb1.mono (Ext.drew _)
        refine WL.l0 (l_storeW sz_25 rfl rfl (by first|rfl|assumption|(simp[*];done)|simp[Value.oneCell', *]) (by first|rfl|simp[*]) hb1 (by first|rfl|simp[*])) fun _ w3 hh=>?_
        obtain⟨hb1,e3,hz3⟩:=hh
        have ns3:wi1.heap.size≤w3.heap.size:=e3.size
        refine WL.nil ?_
        refine WC.ret ?_
        replace hK3:=hK3.mono e3
        replace he:=((he.then hE).then (Ext.drew _)).then e3
        exact finC rfl hb1 rfl ⟨⟨_,rfl,rfl,rfl,rep0⟩,Jc hK3 (by omega),he⟩
theorem numN_ok{jb p u:Nat}{s r:List UInt8}{w:World}(hK:Jt w jb s p)(hd0:s.drop p=45::(Lib.decDigits u++r))(h0:1≤u)(hu:u≤9223372036854775808)(hr:ND r)(hs:s.length≤1000000000000):
    Does Tryz.prog 33 [.pointer (some ⟨jb,0,none⟩)] w fun v w'=>VR w jb s (p+1+(Lib.decDigits u).length) (.mk 2 (18446744073709551616-u) [] 0 []) v w':=by
  have hsz:({data:=s.toArray}:ByteArray).size=s.length:=rfl
  have hlt:=hK.lt
  obtain⟨qd,qr,qpos,qh,qh1⟩:=dd_facts u
  have hd:s.drop (p+1)=Lib.decDigits u++r:=(drop_c hd0).2.2
  have qpl:=(drop_c hd0).1
  generalize Lib.decDigits u=D at *
  obtain⟨P,qP⟩:∃P,P=p+1:=⟨_,rfl⟩
  rw[← qP]at hd
  have qsl:=congrArg List.length hd
  rw[List.length_drop,List.length_append]at qsl
  have qfs:∃b r',s.drop P=b::r'∧48≤b.toNat:=by
    match D,qpos,qr,hd with
    |b::D',_,qr,hd=>exact⟨b,_,hd,(qr b (by simp)).1⟩
  obtain⟨b1,r1,qd1,qb1⟩:=qfs
  have q45:([45]:List UInt8).length=1:=rfl
  unfold VR
  unfold Jt at hK⊢
  refine doesR Tryz.func33 rfl rfl rfl ?_
  have he:Evo (fun k=>k≠jb) w w:=Evo.refl w
  refine WC.seq<|WC.region ?_
  have hs1:=he.size
  refine WL.l rfl (l_alloc zt_25 rfl) fun _ w1 hh=>?_
  obtain⟨rfl,hb1,e1⟩:=hh
  have nx1:=hb1.lt
  have ns1:w.heap.size≤w1.heap.size:=e1.size
  refine WL.nil ?_
  refine WC.seq<|WC.region ?_
  refine WL.q rfl (r_move rfl) ?_
  replace hK:=hK.mono e1
  refine WL.l rfl (l_do body_30 rfl (wordT_ok (t:=[45]) hK (by omega) (by rw[hd0];rfl) hs)) fun v2 w2 hh=>?_
  obtain⟨rfl,hK,e2⟩:=hh
  have ns2:w1.heap.size≤w2.heap.size:=e2.size
  refine WL.q rfl (r_assign rfl) ?_
  refine WL.nil ?_
  refine WC.seq<|WC.region ?_
  refine WL.q rfl (r_move rfl) ?_
  refine WL.q rfl (r_nilp rfl) ?_
  refine WL.q rfl (r_fieldAddr rfl fo_61_1) ?_
  refine WL.q rfl (r_load one_3 rfl (Ext.refl _) (hK.get rfl)) ?_
  refine WL.q rfl (r_assign rfl) ?_
  refine WL.nil ?_
  refine WC.seq<|WC.region ?_
  refine WL.q rfl (r_assign rfl) ?_
  refine WL.nil ?_
  refine WC.seq<|WC.block ?_
  have hK2:=Jc (j:=((P+0:Nat):Int)) hK (by simp only[List.length_cons,List.length_nil];omega)
  replace hb1:=hb1.mono e2
  replace he:=(he.then e1).then e2
  refine WC.loop2 (ι:=Nat) [(0,_),(2,_),(3,_),(4,_)] (fun i=>[(5,.int .u64 (dval (D.take i):Int))]) (fun i wi=>Blk wi jb [str s,.int .i64 ((P+i:Nat):Int),.bool false]∧i≤D.length∧Evo (fun k=>k≠jb) w2 wi) (fun i=>D.length-i) 0 (.cons rfl (.cons rfl (.cons rfl (.cons rfl .nil)))) (.cons rfl .nil) (⟨hK2,Nat.zero_le _,Evo.refl _⟩) ?_
  intro i wi1 hh;obtain⟨hK3,ni,hE⟩:=hh
  rcases Nat.lt_or_ge i D.length with qi|qi
  · have qdr:s.drop (P+i)=D[i]::(D.drop (i+1)++r):=by
      rw[← List.drop_drop,hd,List.drop_append_of_le_length (by omega),List.drop_eq_getElem_cons qi];rfl
    obtain⟨qp,qg1,_⟩:=drop_c qdr
    obtain⟨q48,q57⟩:=qr _ (List.getElem_mem qi)
    have qt:dval (D.take (i+1))=dval (D.take i) * 10+(D[i].toNat-48):=by rw[← List.take_append_getElem qi,dval_snoc]
    have ql:=dval_le D (i+1) qi
    have qw1:IntKind.u8.wrap ((D[i].toNat:Int)-48)=((D[i].toNat-48:Nat):Int):=by rw[IntKind.wrap_u8];omega
    have qw2:IntKind.u64.wrap ((D[i].toNat-48:Nat):Int)=((D[i].toNat-48:Nat):Int):=wu (by omega) (by omega)
    have qw3:IntKind.u64.wrap ((18446744073709551615:Int)-((D[i].toNat-48:Nat):Int))=((18446744073709551615-(D[i].toNat-48):Nat):Int):=by rw[wu (by omega) (by omega)];omega
    have qw4:IntKind.u64.wrap (((18446744073709551615-(D[i].toNat-48):Nat):Int).tdiv 10)=(((18446744073709551615-(D[i].toNat-48)) / 10:Nat):Int):=by rw[Int.tdiv_eq_ediv_of_nonneg (by omega),wu (by omega) (by omega)];omega
    have qw5:IntKind.u64.wrap ((10:Int) * (dval (D.take i):Int))=((10 * dval (D.take i):Nat):Int):=by rw[wu (by omega) (by omega)];omega
    have qw6:IntKind.u64.wrap (((10 * dval (D.take i):Nat):Int)+((D[i].toNat-48:Nat):Int))=(dval (D.take (i+1)):Int):=by rw[wu (by omega) (by omega),qt];omega
    replace hb1:=hb1.mono hE
    refine WC.seq<|WC.seq<|WC.regionD [(true,0),(true,1),(true,2),(true,3),(true,4),(true,5),(true,6),(true,7),(true,8),(true,9),(true,10),(true,11),(true,12),(true,13),(true,14),(true,15),(true,16),(true,17),(true,18),(true,19),(true,20),(true,21),(true,22),(true,23),(true,24),(true,25),(true,26),(true,27),(true,28),(true,29),(true,30),(true,31),(true,32),(true,33)] (Ext _) mixed (by kernel_rfl) (Ext.drew _) ?_
    have nd1wi1:wi1.drew.heap.size=wi1.heap.size:=rfl
    refine WD.q rfl (fun _ hS=>r_move rfl) ?_
    refine WD.q rfl (fun _ hS=>r_nilp rfl) ?_
    refine WD.q rfl (fun _ hS=>r_fieldAddr rfl fo_61_1) ?_
    refine WD.q rfl (fun _ hS=>r_load one_3 rfl hS (hK3.get rfl)) ?_
    refine WD.q rfl (fun _ hS=>r_move rfl) ?_
    refine WD.q rfl (fun _ hS=>r_nilp rfl) ?_
    refine WD.q rfl (fun _ hS=>r_fieldAddr rfl fo_61_0) ?_
    refine WD.q rfl (fun _ hS=>r_load one_9 rfl hS (hK3.get rfl)) ?_
    refine WD.q rfl (fun _ hS=>r_lens str_9 rfl) ?_
    refine WD.q rfl (fun _ hS=>r_cmp (r_lss rfl rfl) (decide_eq_true (by(omega)))) ?_
    refine WD.q rfl (fun _ hS=>r_move rfl) ?_
    refine WD.qg rfl rfl rfl rfl (fun _ hS=>r_move rfl) ?_
    refine WD.qg rfl rfl rfl rfl (fun _ hS=>r_nilp rfl) ?_
    refine WD.qg rfl rfl rfl rfl (fun _ hS=>r_fieldAddr rfl fo_61_0) ?_
    refine WD.qg rfl rfl rfl rfl (fun _ hS=>r_load one_9 rfl hS (hK3.get rfl)) ?_
    refine WD.qg rfl rfl rfl rfl (fun _ hS=>r_move rfl) ?_
    refine WD.qg rfl rfl rfl rfl (fun _ hS=>r_nilp rfl) ?_
    refine WD.qg rfl rfl rfl rfl (fun _ hS=>r_fieldAddr rfl fo_61_1) ?_
    refine WD.qg rfl rfl rfl rfl (fun _ hS=>r_load one_3 rfl hS (hK3.get rfl)) ?_
    refine WD.qg rfl rfl rfl rfl (fun _ hS=>r_idxs str_9 rfl rfl rfl (by assumption)) ?_
    refine WD.qg rfl rfl rfl rfl (fun _ hS=>r_cmp (r_geq rfl rfl) (decide_eq_true (by(omega)))) ?_
    refine WD.q rfl (fun _ hS=>r_pick rfl rfl rfl) ?_
    refine WD.q rfl (fun _ hS=>r_move rfl) ?_
    refine WD.qg rfl rfl rfl rfl (fun _ hS=>r_move rfl) ?_
    refine WD.qg rfl rfl rfl rfl (fun _ hS=>r_nilp rfl) ?_
    refine WD.qg rfl rfl rfl rfl (fun _ hS=>r_fieldAddr rfl fo_61_0) ?_
    refine WD.qg rfl rfl rfl rfl (fun _ hS=>r_load one_9 rfl hS (hK3.get rfl)) ?_
    refine WD.qg rfl rfl rfl rfl (fun _ hS=>r_move rfl) ?_
    refine WD.qg rfl rfl rfl rfl (fun _ hS=>r_nilp rfl) ?_
    refine WD.qg rfl rfl rfl rfl (fun _ hS=>r_fieldAddr rfl fo_61_1) ?_
    refine WD.qg rfl rfl rfl rfl (fun _ hS=>r_load one_3 rfl hS (hK3.get rfl)) ?_
    refine WD.qg rfl rfl rfl rfl (fun _ hS=>r_idxs str_9 rfl rfl rfl (by assumption)) ?_
    refine WD.qg rfl rfl rfl rfl (fun _ hS=>r_cmp (r_leq rfl rfl) (decide_eq_true (by(omega)))) ?_
    refine WD.q rfl (fun _ hS=>r_pick rfl rfl rfl) ?_
    refine WD.nil ?_
    refine WC.condT rfl ?_
    refine WC.skip ?_
    refine WC.block ?_
    replace hb1:=hb1.mono (Ext.drew _)
    replace hK3:=hK3.mono (Ext.drew _)
    refine WC.seq<|WC.regionD [(true,0),(true,1),(true,2),(true,3),(true,4),(true,5),(true,6),(true,7),(true,8),(true,9),(true,10),(true,11)] (Ext _) mixed (by kernel_rfl) (Ext.drew _) ?_
    have nd2wi1:wi1.drew.drew.heap.size=wi1.heap.size:=rfl
    have nd1wi1:wi1.drew.heap.size=wi1.heap.size:=rfl
    refine WD.q rfl (fun _ hS=>r_move rfl) ?_
    refine WD.q rfl (fun _ hS=>r_nilp rfl) ?_
    refine WD.q rfl (fun _ hS=>r_fieldAddr rfl fo_61_0) ?_
    refine WD.q rfl (fun _ hS=>r_load one_9 rfl hS (hK3.get rfl)) ?_
    refine WD.q rfl (fun _ hS=>r_move rfl) ?_
    refine WD.q rfl (fun _ hS=>r_nilp rfl) ?_
    refine WD.q rfl (fun _ hS=>r_fieldAddr rfl fo_61_1) ?_
    refine WD.q rfl (fun _ hS=>r_load one_3 rfl hS (hK3.get rfl)) ?_
    refine WD.q rfl (fun _ hS=>r_idxs str_9 rfl rfl rfl (by assumption)) ?_
    refine WD.q rfl (fun _ hS=>r_as (r_sub rfl rfl) qw1) ?_
    refine WD.q rfl (fun _ hS=>r_cvIntE cv_5_22 rfl qw2) ?_
    refine WD.q rfl (fun _ hS=>r_assign rfl) ?_
    refine WD.nil ?_
    refine WC.seq<|WC.seq<|WC.region ?_
    refine WL.q rfl (r_move rfl) ?_
    refine WL.q rfl (r_move rfl) ?_
    refine WL.q rfl (r_as (r_sub rfl rfl) qw3) ?_
    refine WL.q rfl (r_quoE (by decide) rfl rfl qw4) ?_
    refine WL.q rfl (r_cmp (r_gtr rfl rfl) (decide_eq_false (by(omega)))) ?_
    refine WL.nil ?_
    refine WC.condF rfl ?_
    refine WC.skip ?_
    refine WC.seq<|WC.region ?_
    refine WL.q rfl (r_move rfl) ?_
    refine WL.q rfl (r_as (r_mul rfl rfl) qw5) ?_
    refine WL.q rfl (r_move rfl) ?_
    refine WL.q rfl (r_as (r_add rfl rfl) qw6) ?_
    refine WL.q rfl (r_assign rfl) ?_
    refine WL.nil ?_
    refine WC.region ?_
    refine WL.q rfl (r_move rfl) ?_
    refine WL.q rfl (r_nilp rfl) ?_
    refine WL.q rfl (r_fieldAddr rfl fo_61_1) ?_
    replace hK3:=hK3.mono (Ext.drew _)
    refine WL.q rfl (r_load one_3 rfl (Ext.refl _) (hK3.get rfl)) ?_
    refine WL.q rfl (r_addi rfl rfl rfl (by omega) (by omega)) ?_
    refine WL.q rfl (r_nilp rfl) ?_
    refine WL.q rfl (r_fieldAddr rfl fo_61_1) ?_
    refine WL.l0 (l_store sz_3 rfl rfl (by first|rfl|assumption|exact Own.one (by assumption)) hK3 rfl) fun _ w3 hh=>?_
    obtain⟨hK3,e3,hz3⟩:=hh
    have ns3:wi1.heap.size≤w3.heap.size:=e3.size
    refine WL.nil ?_
    exact⟨i+1,(.cons rfl (.cons rfl (.cons rfl (.cons rfl .nil)))),(.cons (lk_int rfl (by first|omega|(dsimp only;omega)|(dsimp only;done))) .nil),⟨Jc hK3 (by omega),qi,((((hE.then (Ext.drew _)).then (Ext.drew _)).then e3))⟩,by omega⟩
  · have qin:i=D.length:=by omega
    subst qin
    rw[List.take_length,qd]
    have qdr:s.drop (P+D.length)=r:=by rw[← List.drop_drop,hd,List.drop_left]
    have qg0:(⟨s.toArray⟩:ByteArray)[P]?=some b1:=(drop_c qd1).2.1
    have qhd:1<D.length→b1.toNat≠48:=fun h=>by
      have h5:=qh (qh1 h)
      match D,qpos,hd,h5 with
      |b::D',_,hd,h5=>rw[qd1]at hd;injection hd with e1 _;rw[e1];simpa using h5
    have qr2:=hr
    unfold ND at qr2
    rcases(show D.length=1∨1<D.length by omega)with qlen|qlen
    · rcases qr2 with qr2|⟨b,r',qr2,qr3|qr3⟩
      · have qe:P+D.length=s.length:=by rw[qr2]at qsl;simp at qsl;omega
        replace hb1:=hb1.mono hE
        refine WC.seq<|WC.seq<|WC.regionD [(true,0),(true,1),(true,2),(true,3),(true,4),(true,5),(true,6),(true,7),(true,8),(true,9),(true,10),(true,11),(true,12),(true,13),(true,14),(true,15),(true,16),(true,17),(true,18),(true,19),(true,20),(true,21),(true,22),(true,23),(true,24),(true,25),(true,26),(true,27),(true,28),(true,29),(true,30),(true,31),(true,32),(true,33)] (Ext _) mixed (by kernel_rfl) (Ext.drew _) ?_
        have nd1wi1:wi1.drew.heap.size=wi1.heap.size:=rfl
        refine WD.q rfl (fun _ hS=>r_move rfl) ?_
        refine WD.q rfl (fun _ hS=>r_nilp rfl) ?_
        refine WD.q rfl (fun _ hS=>r_fieldAddr rfl fo_61_1) ?_
        refine WD.q rfl (fun _ hS=>r_load one_3 rfl hS (hK3.get rfl)) ?_
        refine WD.q rfl (fun _ hS=>r_move rfl) ?_
        refine WD.q rfl (fun _ hS=>r_nilp rfl) ?_
        refine WD.q rfl (fun _ hS=>r_fieldAddr rfl fo_61_0) ?_
        refine WD.q rfl (fun _ hS=>r_load one_9 rfl hS (hK3.get rfl)) ?_
        refine WD.q rfl (fun _ hS=>r_lens str_9 rfl) ?_
        refine WD.q rfl (fun _ hS=>r_cmp (r_lss rfl rfl) (decide_eq_false (by(omega)))) ?_
        refine WD.q rfl (fun _ hS=>r_move rfl) ?_
        refine WD.sk rfl rfl rfl rfl rfl ?_
        refine WD.sk rfl rfl rfl rfl rfl ?_
        refine WD.sk rfl rfl rfl rfl rfl ?_
        refine WD.sk rfl rfl rfl rfl rfl ?_
        refine WD.sk rfl rfl rfl rfl rfl ?_
        refine WD.sk rfl rfl rfl rfl rfl ?_
        refine WD.sk rfl rfl rfl rfl rfl ?_
        refine WD.sk rfl rfl rfl rfl rfl ?_
        refine WD.sk rfl rfl rfl rfl rfl ?_
        refine WD.sk rfl rfl rfl rfl rfl ?_
        refine WD.q rfl (fun _ hS=>r_pick rfl rfl rfl) ?_
        refine WD.q rfl (fun _ hS=>r_move rfl) ?_
        refine WD.sk rfl rfl rfl rfl rfl ?_
        refine WD.sk rfl rfl rfl rfl rfl ?_
        refine WD.sk rfl rfl rfl rfl rfl ?_
        refine WD.sk rfl rfl rfl rfl rfl ?_
        refine WD.sk rfl rfl rfl rfl rfl ?_
        refine WD.sk rfl rfl rfl rfl rfl ?_
        refine WD.sk rfl rfl rfl rfl rfl ?_
        refine WD.sk rfl rfl rfl rfl rfl ?_
        refine WD.sk rfl rfl rfl rfl rfl ?_
        refine WD.sk rfl rfl rfl rfl rfl ?_
        refine WD.q rfl (fun _ hS=>r_pick rfl rfl rfl) ?_
        refine WD.nil ?_
        refine WC.condF rfl ?_
        refine WC.exit ?_
        refine WC.seq<|WC.seq<|WC.region ?_
        refine WL.q rfl (r_move rfl) ?_
        refine WL.q rfl (r_nilp rfl) ?_
        refine WL.q rfl (r_fieldAddr rfl fo_61_1) ?_
        replace hK3:=hK3.mono (Ext.drew _)
        refine WL.q rfl (r_load one_3 rfl (Ext.refl _) (hK3.get rfl)) ?_
        refine WL.q rfl (r_move rfl) ?_
        refine WL.q rfl (r_cmp (r_eql rfl rfl) (beqF (by(omega)))) ?_
        refine WL.q rfl (r_move rfl) ?_
        refine WL.qg rfl rfl rfl rfl (r_move rfl) ?_
        refine WL.qg rfl rfl rfl rfl (r_nilp rfl) ?_
        refine WL.qg rfl rfl rfl rfl (r_fieldAddr rfl fo_61_1) ?_
        refine WL.qg rfl rfl rfl rfl (r_load one_3 rfl (Ext.refl _) (hK3.get rfl)) ?_
        refine WL.qg rfl rfl rfl rfl (r_move rfl) ?_
        refine WL.qg rfl rfl rfl rfl (r_subi rfl rfl rfl (by omega) (by omega)) ?_
        refine WL.qg rfl rfl rfl rfl (r_cmp (r_gtr rfl rfl) (decide_eq_false (by(omega)))) ?_
        refine WL.qg rfl rfl rfl rfl (r_move rfl) ?_
        refine WL.sk rfl rfl rfl rfl rfl ?_
        refine WL.sk rfl rfl rfl rfl rfl ?_
        refine WL.sk rfl rfl rfl rfl rfl ?_
        refine WL.sk rfl rfl rfl rfl rfl ?_
        refine WL.sk rfl rfl rfl rfl rfl ?_
        refine WL.sk rfl rfl rfl rfl rfl ?_
        refine WL.sk rfl rfl rfl rfl rfl ?_
        refine WL.qg rfl rfl rfl rfl (r_pick rfl rfl rfl) ?_
        refine WL.q rfl (r_pick rfl rfl rfl) ?_
        refine WL.q rfl (r_move rfl) ?_
        refine WL.qg rfl rfl rfl rfl (r_move rfl) ?_
        refine WL.qg rfl rfl rfl rfl (r_move rfl) ?_
        refine WL.qg rfl rfl rfl rfl (r_move rfl) ?_
        refine WL.qg rfl rfl rfl rfl (r_cmp (r_gtr rfl rfl) (decide_eq_false (by(omega)))) ?_
        refine WL.qg rfl rfl rfl rfl (r_pick rfl rfl rfl) ?_
        refine WL.q rfl (r_pick rfl rfl rfl) ?_
        refine WL.nil ?_
        refine WC.condF rfl ?_
        refine WC.skip ?_
        refine WC.seq<|WC.seq<|WC.region ?_
        refine WL.q rfl (r_move rfl) ?_
        refine WL.nil ?_
        refine WC.condT rfl ?_
        refine WC.seq<|WC.region ?_
        refine WL.q rfl (r_move rfl) ?_
        refine WL.q rfl (r_as (r_neg rfl) (show IntKind.u64.wrap (-(u:Int))=((18446744073709551616-u:Nat):Int) by rw[IntKind.wrap_u64];omega)) ?_
        refine WL.q rfl (r_bld (cs:=[_,_,_,_,_]) bld_25 rfl rfl) ?_
        replace hb1:=hb1.mono (Ext.drew _)
        refine WL.l0 (l_storeW sz_25 rfl rfl (by first|rfl|assumption|(simp[*];done)|simp[Value.oneCell', *]) (by first|rfl|simp[*]) hb1 (by first|rfl|simp[*])) fun _ w3 hh=>?_
        obtain⟨hb1,e3,hz3⟩:=hh
        have ns3:wi1.heap.size≤w3.heap.size:=e3.size
        refine WL.nil ?_
        refine WC.ret ?_
        replace hK3:=hK3.mono e3
        replace he:=((he.then hE).then (Ext.drew _)).then e3
        exact finC rfl hb1 rfl ⟨⟨_,rfl,rfl,rfl,rep0⟩,Jc hK3 (by omega),he⟩
      · obtain⟨qp,qgx,_⟩:=drop_c (qdr.trans qr2)
        replace hb1:=hb1.mono hE
        refine WC.seq<|WC.seq<|WC.regionD [(true,0),(true,1),(true,2),(true,3),(true,4),(true,5),(true,6),(true,7),(true,8),(true,9),(true,10),(true,11),(true,12),(true,13),(true,14),(true,15),(true,16),(true,17),(true,18),(true,19),(true,20),(true,21),(true,22),(true,23),(true,24),(true,25),(true,26),(true,27),(true,28),(true,29),(true,30),(true,31),(true,32),(true,33)] (Ext _) mixed (by kernel_rfl) (Ext.drew _) ?_
        have nd1wi1:wi1.drew.heap.size=wi1.heap.size:=rfl
        refine WD.q rfl (fun _ hS=>r_move rfl) ?_
        refine WD.q rfl (fun _ hS=>r_nilp rfl) ?_
        refine WD.q rfl (fun _ hS=>r_fieldAddr rfl fo_61_1) ?_
        refine WD.q rfl (fun _ hS=>r_load one_3 rfl hS (hK3.get rfl)) ?_
        refine WD.q rfl (fun _ hS=>r_move rfl) ?_
        refine WD.q rfl (fun _ hS=>r_nilp rfl) ?_
        refine WD.q rfl (fun _ hS=>r_fieldAddr rfl fo_61_0) ?_
        refine WD.q rfl (fun _ hS=>r_load one_9 rfl hS (hK3.get rfl)) ?_
        refine WD.q rfl (fun _ hS=>r_lens str_9 rfl) ?_
        refine WD.q rfl (fun _ hS=>r_cmp (r_lss rfl rfl) (decide_eq_true (by(omega)))) ?_
        refine WD.q rfl (fun _ hS=>r_move rfl) ?_
        refine WD.qg rfl rfl rfl rfl (fun _ hS=>r_move rfl) ?_
        refine WD.qg rfl rfl rfl rfl (fun _ hS=>r_nilp rfl) ?_
        refine WD.qg rfl rfl rfl rfl (fun _ hS=>r_fieldAddr rfl fo_61_0) ?_
        refine WD.qg rfl rfl rfl rfl (fun _ hS=>r_load one_9 rfl hS (hK3.get rfl)) ?_
        refine WD.qg rfl rfl rfl rfl (fun _ hS=>r_move rfl) ?_
        refine WD.qg rfl rfl rfl rfl (fun _ hS=>r_nilp rfl) ?_
        refine WD.qg rfl rfl rfl rfl (fun _ hS=>r_fieldAddr rfl fo_61_1) ?_
        refine WD.qg rfl rfl rfl rfl (fun _ hS=>r_load one_3 rfl hS (hK3.get rfl)) ?_
        refine WD.qg rfl rfl rfl rfl (fun _ hS=>r_idxs str_9 rfl rfl rfl (by assumption)) ?_
        refine WD.qg rfl rfl rfl rfl (fun _ hS=>r_cmp (r_geq rfl rfl) (decide_eq_false (by(omega)))) ?_
        refine WD.q rfl (fun _ hS=>r_pick rfl rfl rfl) ?_
        refine WD.q rfl (fun _ hS=>r_move rfl) ?_
        refine WD.sk rfl rfl rfl rfl rfl ?_
        refine WD.sk rfl rfl rfl rfl rfl ?_
        refine WD.sk rfl rfl rfl rfl rfl ?_
        refine WD.sk rfl rfl rfl rfl rfl ?_
        refine WD.sk rfl rfl rfl rfl rfl ?_
        refine WD.sk rfl rfl rfl rfl rfl ?_
        refine WD.sk rfl rfl rfl rfl rfl ?_
        refine WD.sk rfl rfl rfl rfl rfl ?_
        refine WD.sk rfl rfl rfl rfl rfl ?_
        refine WD.sk rfl rfl rfl rfl rfl ?_
        refine WD.q rfl (fun _ hS=>r_pick rfl rfl rfl) ?_
        refine WD.nil ?_
        refine WC.condF rfl ?_
        refine WC.exit ?_
        refine WC.seq<|WC.seq<|WC.region ?_
        refine WL.q rfl (r_move rfl) ?_
        refine WL.q rfl (r_nilp rfl) ?_
        refine WL.q rfl (r_fieldAddr rfl fo_61_1) ?_
        replace hK3:=hK3.mono (Ext.drew _)
        refine WL.q rfl (r_load one_3 rfl (Ext.refl _) (hK3.get rfl)) ?_
        refine WL.q rfl (r_move rfl) ?_
        refine WL.q rfl (r_cmp (r_eql rfl rfl) (beqF (by(omega)))) ?_
        refine WL.q rfl (r_move rfl) ?_
        refine WL.qg rfl rfl rfl rfl (r_move rfl) ?_
        refine WL.qg rfl rfl rfl rfl (r_nilp rfl) ?_
        refine WL.qg rfl rfl rfl rfl (r_fieldAddr rfl fo_61_1) ?_
        refine WL.qg rfl rfl rfl rfl (r_load one_3 rfl (Ext.refl _) (hK3.get rfl)) ?_
        refine WL.qg rfl rfl rfl rfl (r_move rfl) ?_
        refine WL.qg rfl rfl rfl rfl (r_subi rfl rfl rfl (by omega) (by omega)) ?_
        refine WL.qg rfl rfl rfl rfl (r_cmp (r_gtr rfl rfl) (decide_eq_false (by(omega)))) ?_
        refine WL.qg rfl rfl rfl rfl (r_move rfl) ?_
        refine WL.sk rfl rfl rfl rfl rfl ?_
        refine WL.sk rfl rfl rfl rfl rfl ?_
        refine WL.sk rfl rfl rfl rfl rfl ?_
        refine WL.sk rfl rfl rfl rfl rfl ?_
        refine WL.sk rfl rfl rfl rfl rfl ?_
        refine WL.sk rfl rfl rfl rfl rfl ?_
        refine WL.sk rfl rfl rfl rfl rfl ?_
        refine WL.qg rfl rfl rfl rfl (r_pick rfl rfl rfl) ?_
        refine WL.q rfl (r_pick rfl rfl rfl) ?_
        refine WL.q rfl (r_move rfl) ?_
        refine WL.qg rfl rfl rfl rfl (r_move rfl) ?_
        refine WL.qg rfl rfl rfl rfl (r_move rfl) ?_
        refine WL.qg rfl rfl rfl rfl (r_move rfl) ?_
        refine WL.qg rfl rfl rfl rfl (r_cmp (r_gtr rfl rfl) (decide_eq_false (by(omega)))) ?_
        refine WL.qg rfl rfl rfl rfl (r_pick rfl rfl rfl) ?_
        refine WL.q rfl (r_pick rfl rfl rfl) ?_
        refine WL.nil ?_
        refine WC.condF rfl ?_
        refine WC.skip ?_
        refine WC.seq<|WC.seq<|WC.region ?_
        refine WL.q rfl (r_move rfl) ?_
        refine WL.nil ?_
        refine WC.condT rfl ?_
        refine WC.seq<|WC.region ?_
        refine WL.q rfl (r_move rfl) ?_
        refine WL.q rfl (r_as (r_neg rfl) (show IntKind.u64.wrap (-(u:Int))=((18446744073709551616-u:Nat):Int) by rw[IntKind.wrap_u64];omega)) ?_
        refine WL.q rfl (r_bld (cs:=[_,_,_,_,_]) bld_25 rfl rfl) ?_
        replace hb1:=hb1.mono (Ext.drew _)
        refine WL.l0 (l_storeW sz_25 rfl rfl (by first|rfl|assumption|(simp[*];done)|simp[Value.oneCell', *]) (by first|rfl|simp[*]) hb1 (by first|rfl|simp[*])) fun _ w3 hh=>?_
        obtain⟨hb1,e3,hz3⟩:=hh
        have ns3:wi1.heap.size≤w3.heap.size:=e3.size
        refine WL.nil ?_
        refine WC.ret ?_
        replace hK3:=hK3.mono e3
        replace he:=((he.then hE).then (Ext.drew _)).then e3
        exact finC rfl hb1 rfl ⟨⟨_,rfl,rfl,rfl,rep0⟩,Jc hK3 (by omega),he⟩
      · obtain⟨qp,qgx,_⟩:=drop_c (qdr.trans qr2)
        replace hb1:=hb1.mono hE
        refine WC.seq<|WC.seq<|WC.regionD [(true,0),(true,1),(true,2),(true,3),(true,4),(true,5),(true,6),(true,7),(true,8),(true,9),(true,10),(true,11),(true,12),(true,13),(true,14),(true,15),(true,16),(true,17),(true,18),(true,19),(true,20),(true,21),(true,22),(true,23),(true,24),(true,25),(true,26),(true,27),(true,28),(true,29),(true,30),(true,31),(true,32),(true,33)] (Ext _) mixed (by kernel_rfl) (Ext.drew _) ?_
        have nd1wi1:wi1.drew.heap.size=wi1.heap.size:=rfl
        refine WD.q rfl (fun _ hS=>r_move rfl) ?_
        refine WD.q rfl (fun _ hS=>r_nilp rfl) ?_
        refine WD.q rfl (fun _ hS=>r_fieldAddr rfl fo_61_1) ?_
        refine WD.q rfl (fun _ hS=>r_load one_3 rfl hS (hK3.get rfl)) ?_
        refine WD.q rfl (fun _ hS=>r_move rfl) ?_
        refine WD.q rfl (fun _ hS=>r_nilp rfl) ?_
        refine WD.q rfl (fun _ hS=>r_fieldAddr rfl fo_61_0) ?_
        refine WD.q rfl (fun _ hS=>r_load one_9 rfl hS (hK3.get rfl)) ?_
        refine WD.q rfl (fun _ hS=>r_lens str_9 rfl) ?_
        refine WD.q rfl (fun _ hS=>r_cmp (r_lss rfl rfl) (decide_eq_true (by(omega)))) ?_
        refine WD.q rfl (fun _ hS=>r_move rfl) ?_
        refine WD.qg rfl rfl rfl rfl (fun _ hS=>r_move rfl) ?_
        refine WD.qg rfl rfl rfl rfl (fun _ hS=>r_nilp rfl) ?_
        refine WD.qg rfl rfl rfl rfl (fun _ hS=>r_fieldAddr rfl fo_61_0) ?_
        refine WD.qg rfl rfl rfl rfl (fun _ hS=>r_load one_9 rfl hS (hK3.get rfl)) ?_
        refine WD.qg rfl rfl rfl rfl (fun _ hS=>r_move rfl) ?_
        refine WD.qg rfl rfl rfl rfl (fun _ hS=>r_nilp rfl) ?_
        refine WD.qg rfl rfl rfl rfl (fun _ hS=>r_fieldAddr rfl fo_61_1) ?_
        refine WD.qg rfl rfl rfl rfl (fun _ hS=>r_load one_3 rfl hS (hK3.get rfl)) ?_
        refine WD.qg rfl rfl rfl rfl (fun _ hS=>r_idxs str_9 rfl rfl rfl (by assumption)) ?_
        refine WD.qg rfl rfl rfl rfl (fun _ hS=>r_cmp (r_geq rfl rfl) (decide_eq_true (by(omega)))) ?_
        refine WD.q rfl (fun _ hS=>r_pick rfl rfl rfl) ?_
        refine WD.q rfl (fun _ hS=>r_move rfl) ?_
        refine WD.qg rfl rfl rfl rfl (fun _ hS=>r_move rfl) ?_
        refine WD.qg rfl rfl rfl rfl (fun _ hS=>r_nilp rfl) ?_
        refine WD.qg rfl rfl rfl rfl (fun _ hS=>r_fieldAddr rfl fo_61_0) ?_
        refine WD.qg rfl rfl rfl rfl (fun _ hS=>r_load one_9 rfl hS (hK3.get rfl)) ?_
        refine WD.qg rfl rfl rfl rfl (fun _ hS=>r_move rfl) ?_
        refine WD.qg rfl rfl rfl rfl (fun _ hS=>r_nilp rfl) ?_
        refine WD.qg rfl rfl rfl rfl (fun _ hS=>r_fieldAddr rfl fo_61_1) ?_
        refine WD.qg rfl rfl rfl rfl (fun _ hS=>r_load one_3 rfl hS (hK3.get rfl)) ?_
        refine WD.qg rfl rfl rfl rfl (fun _ hS=>r_idxs str_9 rfl rfl rfl (by assumption)) ?_
        refine WD.qg rfl rfl rfl rfl (fun _ hS=>r_cmp (r_leq rfl rfl) (decide_eq_false (by(omega)))) ?_
        refine WD.q rfl (fun _ hS=>r_pick rfl rfl rfl) ?_
        refine WD.nil ?_
        refine WC.condF rfl ?_
        refine WC.exit ?_
        refine WC.seq<|WC.seq<|WC.region ?_
        refine WL.q rfl (r_move rfl) ?_
        refine WL.q rfl (r_nilp rfl) ?_
        refine WL.q rfl (r_fieldAddr rfl fo_61_1) ?_
        replace hK3:=hK3.mono (Ext.drew _)
        refine WL.q rfl (r_load one_3 rfl (Ext.refl _) (hK3.get rfl)) ?_
        refine WL.q rfl (r_move rfl) ?_
        refine WL.q rfl (r_cmp (r_eql rfl rfl) (beqF (by(omega)))) ?_
        refine WL.q rfl (r_move rfl) ?_
        refine WL.qg rfl rfl rfl rfl (r_move rfl) ?_
        refine WL.qg rfl rfl rfl rfl (r_nilp rfl) ?_
        refine WL.qg rfl rfl rfl rfl (r_fieldAddr rfl fo_61_1) ?_
        refine WL.qg rfl rfl rfl rfl (r_load one_3 rfl (Ext.refl _) (hK3.get rfl)) ?_
        refine WL.qg rfl rfl rfl rfl (r_move rfl) ?_
        refine WL.qg rfl rfl rfl rfl (r_subi rfl rfl rfl (by omega) (by omega)) ?_
        refine WL.qg rfl rfl rfl rfl (r_cmp (r_gtr rfl rfl) (decide_eq_false (by(omega)))) ?_
        refine WL.qg rfl rfl rfl rfl (r_move rfl) ?_
        refine WL.sk rfl rfl rfl rfl rfl ?_
        refine WL.sk rfl rfl rfl rfl rfl ?_
        refine WL.sk rfl rfl rfl rfl rfl ?_
        refine WL.sk rfl rfl rfl rfl rfl ?_
        refine WL.sk rfl rfl rfl rfl rfl ?_
        refine WL.sk rfl rfl rfl rfl rfl ?_
        refine WL.sk rfl rfl rfl rfl rfl ?_
        refine WL.qg rfl rfl rfl rfl (r_pick rfl rfl rfl) ?_
        refine WL.q rfl (r_pick rfl rfl rfl) ?_
        refine WL.q rfl (r_move rfl) ?_
        refine WL.qg rfl rfl rfl rfl (r_move rfl) ?_
        refine WL.qg rfl rfl rfl rfl (r_move rfl) ?_
        refine WL.qg rfl rfl rfl rfl (r_move rfl) ?_
        refine WL.qg rfl rfl rfl rfl (r_cmp (r_gtr rfl rfl) (decide_eq_false (by(omega)))) ?_
        refine WL.qg rfl rfl rfl rfl (r_pick rfl rfl rfl) ?_
        refine WL.q rfl (r_pick rfl rfl rfl) ?_
        refine WL.nil ?_
        refine WC.condF rfl ?_
        refine WC.skip ?_
        refine WC.seq<|WC.seq<|WC.region ?_
        refine WL.q rfl (r_move rfl) ?_
        refine WL.nil ?_
        refine WC.condT rfl ?_
        refine WC.seq<|WC.region ?_
        refine WL.q rfl (r_move rfl) ?_
        refine WL.q rfl (r_as (r_neg rfl) (show IntKind.u64.wrap (-(u:Int))=((18446744073709551616-u:Nat):Int) by rw[IntKind.wrap_u64];omega)) ?_
        refine WL.q rfl (r_bld (cs:=[_,_,_,_,_]) bld_25 rfl rfl) ?_
        replace hb1:=hb1.mono (Ext.drew _)
        refine WL.l0 (l_storeW sz_25 rfl rfl (by first|rfl|assumption|(simp[*];done)|simp[Value.oneCell', *]) (by first|rfl|simp[*]) hb1 (by first|rfl|simp[*])) fun _ w3 hh=>?_
        obtain⟨hb1,e3,hz3⟩:=hh
        have ns3:wi1.heap.size≤w3.heap.size:=e3.size
        refine WL.nil ?_
        refine WC.ret ?_
        replace hK3:=hK3.mono e3
        replace he:=((he.then hE).then (Ext.drew _)).then e3
        exact finC rfl hb1 rfl ⟨⟨_,rfl,rfl,rfl,rep0⟩,Jc hK3 (by omega),he⟩
    · rcases qr2 with qr2|⟨b,r',qr2,qr3|qr3⟩
      · have qe:P+D.length=s.length:=by rw[qr2]at qsl;simp at qsl;omega
        replace hb1:=hb1.mono hE
        refine WC.seq<|WC.seq<|WC.regionD [(true,0),(true,1),(true,2),(true,3),(true,4),(true,5),(true,6),(true,7),(true,8),(true,9),(true,10),(true,11),(true,12),(true,13),(true,14),(true,15),(true,16),(true,17),(true,18),(true,19),(true,20),(true,21),(true,22),(true,23),(true,24),(true,25),(true,26),(true,27),(true,28),(true,29),(true,30),(true,31),(true,32),(true,33)] (Ext _) mixed (by kernel_rfl) (Ext.drew _) ?_
        have nd1wi1:wi1.drew.heap.size=wi1.heap.size:=rfl
        refine WD.q rfl (fun _ hS=>r_move rfl) ?_
        refine WD.q rfl (fun _ hS=>r_nilp rfl) ?_
        refine WD.q rfl (fun _ hS=>r_fieldAddr rfl fo_61_1) ?_
        refine WD.q rfl (fun _ hS=>r_load one_3 rfl hS (hK3.get rfl)) ?_
        refine WD.q rfl (fun _ hS=>r_move rfl) ?_
        refine WD.q rfl (fun _ hS=>r_nilp rfl) ?_
        refine WD.q rfl (fun _ hS=>r_fieldAddr rfl fo_61_0) ?_
        refine WD.q rfl (fun _ hS=>r_load one_9 rfl hS (hK3.get rfl)) ?_
        refine WD.q rfl (fun _ hS=>r_lens str_9 rfl) ?_
        refine WD.q rfl (fun _ hS=>r_cmp (r_lss rfl rfl) (decide_eq_false (by(omega)))) ?_
        refine WD.q rfl (fun _ hS=>r_move rfl) ?_
        refine WD.sk rfl rfl rfl rfl rfl ?_
        refine WD.sk rfl rfl rfl rfl rfl ?_
        refine WD.sk rfl rfl rfl rfl rfl ?_
        refine WD.sk rfl rfl rfl rfl rfl ?_
        refine WD.sk rfl rfl rfl rfl rfl ?_
        refine WD.sk rfl rfl rfl rfl rfl ?_
        refine WD.sk rfl rfl rfl rfl rfl ?_
        refine WD.sk rfl rfl rfl rfl rfl ?_
        refine WD.sk rfl rfl rfl rfl rfl ?_
        refine WD.sk rfl rfl rfl rfl rfl ?_
        refine WD.q rfl (fun _ hS=>r_pick rfl rfl rfl) ?_
        refine WD.q rfl (fun _ hS=>r_move rfl) ?_
        refine WD.sk rfl rfl rfl rfl rfl ?_
        refine WD.sk rfl rfl rfl rfl rfl ?_
        refine WD.sk rfl rfl rfl rfl rfl ?_
        refine WD.sk rfl rfl rfl rfl rfl ?_
        refine WD.sk rfl rfl rfl rfl rfl ?_
        refine WD.sk rfl rfl rfl rfl rfl ?_
        refine WD.sk rfl rfl rfl rfl rfl ?_
        refine WD.sk rfl rfl rfl rfl rfl ?_
        refine WD.sk rfl rfl rfl rfl rfl ?_
        refine WD.sk rfl rfl rfl rfl rfl ?_
        refine WD.q rfl (fun _ hS=>r_pick rfl rfl rfl) ?_
        refine WD.nil ?_
        refine WC.condF rfl ?_
        refine WC.exit ?_
        refine WC.seq<|WC.seq<|WC.region ?_
        refine WL.q rfl (r_move rfl) ?_
        refine WL.q rfl (r_nilp rfl) ?_
        refine WL.q rfl (r_fieldAddr rfl fo_61_1) ?_
        replace hK3:=hK3.mono (Ext.drew _)
        refine WL.q rfl (r_load one_3 rfl (Ext.refl _) (hK3.get rfl)) ?_
        refine WL.q rfl (r_move rfl) ?_
        refine WL.q rfl (r_cmp (r_eql rfl rfl) (beqF (by(omega)))) ?_
        refine WL.q rfl (r_move rfl) ?_
        refine WL.qg rfl rfl rfl rfl (r_move rfl) ?_
        refine WL.qg rfl rfl rfl rfl (r_nilp rfl) ?_
        refine WL.qg rfl rfl rfl rfl (r_fieldAddr rfl fo_61_1) ?_
        refine WL.qg rfl rfl rfl rfl (r_load one_3 rfl (Ext.refl _) (hK3.get rfl)) ?_
        refine WL.qg rfl rfl rfl rfl (r_move rfl) ?_
        refine WL.qg rfl rfl rfl rfl (r_subi rfl rfl rfl (by omega) (by omega)) ?_
        refine WL.qg rfl rfl rfl rfl (r_cmp (r_gtr rfl rfl) (decide_eq_true (by(omega)))) ?_
        refine WL.qg rfl rfl rfl rfl (r_move rfl) ?_
        refine WL.qg rfl rfl rfl rfl (r_move rfl) ?_
        refine WL.qg rfl rfl rfl rfl (r_nilp rfl) ?_
        refine WL.qg rfl rfl rfl rfl (r_fieldAddr rfl fo_61_0) ?_
        refine WL.qg rfl rfl rfl rfl (r_load one_9 rfl (Ext.refl _) (hK3.get rfl)) ?_
        refine WL.qg rfl rfl rfl rfl (r_move rfl) ?_
        refine WL.qg rfl rfl rfl rfl (r_idxs (j:=P) str_9 rfl rfl (by omega) qg0) ?_
        refine WL.qg rfl rfl rfl rfl (r_cmp (r_eql rfl rfl) (beqF (by(have:=qhd qlen;omega)))) ?_
        refine WL.qg rfl rfl rfl rfl (r_pick rfl rfl rfl) ?_
        refine WL.q rfl (r_pick rfl rfl rfl) ?_
        refine WL.q rfl (r_move rfl) ?_
        refine WL.qg rfl rfl rfl rfl (r_move rfl) ?_
        refine WL.qg rfl rfl rfl rfl (r_move rfl) ?_
        refine WL.qg rfl rfl rfl rfl (r_move rfl) ?_
        refine WL.qg rfl rfl rfl rfl (r_cmp (r_gtr rfl rfl) (decide_eq_false (by(omega)))) ?_
        refine WL.qg rfl rfl rfl rfl (r_pick rfl rfl rfl) ?_
        refine WL.q rfl (r_pick rfl rfl rfl) ?_
        refine WL.nil ?_
        refine WC.condF rfl ?_
        refine WC.skip ?_
        refine WC.seq<|WC.seq<|WC.region ?_
        refine WL.q rfl (r_move rfl) ?_
        refine WL.nil ?_
        refine WC.condT rfl ?_
        refine WC.seq<|WC.region ?_
        refine WL.q rfl (r_move rfl) ?_
        refine WL.q rfl (r_as (r_neg rfl) (show IntKind.u64.wrap (-(u:Int))=((18446744073709551616-u:Nat):Int) by rw[IntKind.wrap_u64];omega)) ?_
        refine WL.q rfl (r_bld (cs:=[_,_,_,_,_]) bld_25 rfl rfl) ?_
        replace hb1:=hb1.mono (Ext.drew _)
        refine WL.l0 (l_storeW sz_25 rfl rfl (by first|rfl|assumption|(simp[*];done)|simp[Value.oneCell', *]) (by first|rfl|simp[*]) hb1 (by first|rfl|simp[*])) fun _ w3 hh=>?_
        obtain⟨hb1,e3,hz3⟩:=hh
        have ns3:wi1.heap.size≤w3.heap.size:=e3.size
        refine WL.nil ?_
        refine WC.ret ?_
        replace hK3:=hK3.mono e3
        replace he:=((he.then hE).then (Ext.drew _)).then e3
        exact finC rfl hb1 rfl ⟨⟨_,rfl,rfl,rfl,rep0⟩,Jc hK3 (by omega),he⟩
      · obtain⟨qp,qgx,_⟩:=drop_c (qdr.trans qr2)
        replace hb1:=hb1.mono hE
        refine WC.seq<|WC.seq<|WC.regionD [(true,0),(true,1),(true,2),(true,3),(true,4),(true,5),(true,6),(true,7),(true,8),(true,9),(true,10),(true,11),(true,12),(true,13),(true,14),(true,15),(true,16),(true,17),(true,18),(true,19),(true,20),(true,21),(true,22),(true,23),(true,24),(true,25),(true,26),(true,27),(true,28),(true,29),(true,30),(true,31),(true,32),(true,33)] (Ext _) mixed (by kernel_rfl) (Ext.drew _) ?_
        have nd1wi1:wi1.drew.heap.size=wi1.heap.size:=rfl
        refine WD.q rfl (fun _ hS=>r_move rfl) ?_
        refine WD.q rfl (fun _ hS=>r_nilp rfl) ?_
        refine WD.q rfl (fun _ hS=>r_fieldAddr rfl fo_61_1) ?_
        refine WD.q rfl (fun _ hS=>r_load one_3 rfl hS (hK3.get rfl)) ?_
        refine WD.q rfl (fun _ hS=>r_move rfl) ?_
        refine WD.q rfl (fun _ hS=>r_nilp rfl) ?_
        refine WD.q rfl (fun _ hS=>r_fieldAddr rfl fo_61_0) ?_
        refine WD.q rfl (fun _ hS=>r_load one_9 rfl hS (hK3.get rfl)) ?_
        refine WD.q rfl (fun _ hS=>r_lens str_9 rfl) ?_
        refine WD.q rfl (fun _ hS=>r_cmp (r_lss rfl rfl) (decide_eq_true (by(omega)))) ?_
        refine WD.q rfl (fun _ hS=>r_move rfl) ?_
        refine WD.qg rfl rfl rfl rfl (fun _ hS=>r_move rfl) ?_
        refine WD.qg rfl rfl rfl rfl (fun _ hS=>r_nilp rfl) ?_
        refine WD.qg rfl rfl rfl rfl (fun _ hS=>r_fieldAddr rfl fo_61_0) ?_
        refine WD.qg rfl rfl rfl rfl (fun _ hS=>r_load one_9 rfl hS (hK3.get rfl)) ?_
        refine WD.qg rfl rfl rfl rfl (fun _ hS=>r_move rfl) ?_
        refine WD.qg rfl rfl rfl rfl (fun _ hS=>r_nilp rfl) ?_
        refine WD.qg rfl rfl rfl rfl (fun _ hS=>r_fieldAddr rfl fo_61_1) ?_
        refine WD.qg rfl rfl rfl rfl (fun _ hS=>r_load one_3 rfl hS (hK3.get rfl)) ?_
        refine WD.qg rfl rfl rfl rfl (fun _ hS=>r_idxs str_9 rfl rfl rfl (by assumption)) ?_
        refine WD.qg rfl rfl rfl rfl (fun _ hS=>r_cmp (r_geq rfl rfl) (decide_eq_false (by(omega)))) ?_
        refine WD.q rfl (fun _ hS=>r_pick rfl rfl rfl) ?_
        refine WD.q rfl (fun _ hS=>r_move rfl) ?_
        refine WD.sk rfl rfl rfl rfl rfl ?_
        refine WD.sk rfl rfl rfl rfl rfl ?_
        refine WD.sk rfl rfl rfl rfl rfl ?_
        refine WD.sk rfl rfl rfl rfl rfl ?_
        refine WD.sk rfl rfl rfl rfl rfl ?_
        refine WD.sk rfl rfl rfl rfl rfl ?_
        refine WD.sk rfl rfl rfl rfl rfl ?_
        refine WD.sk rfl rfl rfl rfl rfl ?_
        refine WD.sk rfl rfl rfl rfl rfl ?_
        refine WD.sk rfl rfl rfl rfl rfl ?_
        refine WD.q rfl (fun _ hS=>r_pick rfl rfl rfl) ?_
        refine WD.nil ?_
        refine WC.condF rfl ?_
        refine WC.exit ?_
        refine WC.seq<|WC.seq<|WC.region ?_
        refine WL.q rfl (r_move rfl) ?_
        refine WL.q rfl (r_nilp rfl) ?_
        refine WL.q rfl (r_fieldAddr rfl fo_61_1) ?_
        replace hK3:=hK3.mono (Ext.drew _)
        refine WL.q rfl (r_load one_3 rfl (Ext.refl _) (hK3.get rfl)) ?_
        refine WL.q rfl (r_move rfl) ?_
        refine WL.q rfl (r_cmp (r_eql rfl rfl) (beqF (by(omega)))) ?_
        refine WL.q rfl (r_move rfl) ?_
        refine WL.qg rfl rfl rfl rfl (r_move rfl) ?_
        refine WL.qg rfl rfl rfl rfl (r_nilp rfl) ?_
        refine WL.qg rfl rfl rfl rfl (r_fieldAddr rfl fo_61_1) ?_
        refine WL.qg rfl rfl rfl rfl (r_load one_3 rfl (Ext.refl _) (hK3.get rfl)) ?_
        refine WL.qg rfl rfl rfl rfl (r_move rfl) ?_
        refine WL.qg rfl rfl rfl rfl (r_subi rfl rfl rfl (by omega) (by omega)) ?_
        refine WL.qg rfl rfl rfl rfl (r_cmp (r_gtr rfl rfl) (decide_eq_true (by(omega)))) ?_
        refine WL.qg rfl rfl rfl rfl (r_move rfl) ?_
        refine WL.qg rfl rfl rfl rfl (r_move rfl) ?_
        refine WL.qg rfl rfl rfl rfl (r_nilp rfl) ?_
        refine WL.qg rfl rfl rfl rfl (r_fieldAddr rfl fo_61_0) ?_
        refine WL.qg rfl rfl rfl rfl (r_load one_9 rfl (Ext.refl _) (hK3.get rfl)) ?_
        refine WL.qg rfl rfl rfl rfl (r_move rfl) ?_
        refine WL.qg rfl rfl rfl rfl (r_idxs (j:=P) str_9 rfl rfl (by omega) qg0) ?_
        refine WL.qg rfl rfl rfl rfl (r_cmp (r_eql rfl rfl) (beqF (by(have:=qhd qlen;omega)))) ?_
        refine WL.qg rfl rfl rfl rfl (r_pick rfl rfl rfl) ?_
        refine WL.q rfl (r_pick rfl rfl rfl) ?_
        refine WL.q rfl (r_move rfl) ?_
        refine WL.qg rfl rfl rfl rfl (r_move rfl) ?_
        refine WL.qg rfl rfl rfl rfl (r_move rfl) ?_
        refine WL.qg rfl rfl rfl rfl (r_move rfl) ?_
        refine WL.qg rfl rfl rfl rfl (r_cmp (r_gtr rfl rfl) (decide_eq_false (by(omega)))) ?_
        refine WL.qg rfl rfl rfl rfl (r_pick rfl rfl rfl) ?_
        refine WL.q rfl (r_pick rfl rfl rfl) ?_
        refine WL.nil ?_
        refine WC.condF rfl ?_
        refine WC.skip ?_
        refine WC.seq<|WC.seq<|WC.region ?_
        refine WL.q rfl (r_move rfl) ?_
        refine WL.nil ?_
        refine WC.condT rfl ?_
        refine WC.seq<|WC.region ?_
        refine WL.q rfl (r_move rfl) ?_
        refine WL.q rfl (r_as (r_neg rfl) (show IntKind.u64.wrap (-(u:Int))=((18446744073709551616-u:Nat):Int) by rw[IntKind.wrap_u64];omega)) ?_
        refine WL.q rfl (r_bld (cs:=[_,_,_,_,_]) bld_25 rfl rfl) ?_
        replace hb1:=hb1.mono (Ext.drew _)
        refine WL.l0 (l_storeW sz_25 rfl rfl (by first|rfl|assumption|(simp[*];done)|simp[Value.oneCell', *]) (by first|rfl|simp[*]) hb1 (by first|rfl|simp[*])) fun _ w3 hh=>?_
        obtain⟨hb1,e3,hz3⟩:=hh
        have ns3:wi1.heap.size≤w3.heap.size:=e3.size
        refine WL.nil ?_
        refine WC.ret ?_
        replace hK3:=hK3.mono e3
        replace he:=((he.then hE).then (Ext.drew _)).then e3
        exact finC rfl hb1 rfl ⟨⟨_,rfl,rfl,rfl,rep0⟩,Jc hK3 (by omega),he⟩
      · obtain⟨qp,qgx,_⟩:=drop_c (qdr.trans qr2)
        replace hb1:=hb1.mono hE
        refine WC.seq<|WC.seq<|WC.regionD [(true,0),(true,1),(true,2),(true,3),(true,4),(true,5),(true,6),(true,7),(true,8),(true,9),(true,10),(true,11),(true,12),(true,13),(true,14),(true,15),(true,16),(true,17),(true,18),(true,19),(true,20),(true,21),(true,22),(true,23),(true,24),(true,25),(true,26),(true,27),(true,28),(true,29),(true,30),(true,31),(true,32),(true,33)] (Ext _) mixed (by kernel_rfl) (Ext.drew _) ?_
        have nd1wi1:wi1.drew.heap.size=wi1.heap.size:=rfl
        refine WD.q rfl (fun _ hS=>r_move rfl) ?_
        refine WD.q rfl (fun _ hS=>r_nilp rfl) ?_
        refine WD.q rfl (fun _ hS=>r_fieldAddr rfl fo_61_1) ?_
        refine WD.q rfl (fun _ hS=>r_load one_3 rfl hS (hK3.get rfl)) ?_
        refine WD.q rfl (fun _ hS=>r_move rfl) ?_
        refine WD.q rfl (fun _ hS=>r_nilp rfl) ?_
        refine WD.q rfl (fun _ hS=>r_fieldAddr rfl fo_61_0) ?_
        refine WD.q rfl (fun _ hS=>r_load one_9 rfl hS (hK3.get rfl)) ?_
        refine WD.q rfl (fun _ hS=>r_lens str_9 rfl) ?_
        refine WD.q rfl (fun _ hS=>r_cmp (r_lss rfl rfl) (decide_eq_true (by(omega)))) ?_
        refine WD.q rfl (fun _ hS=>r_move rfl) ?_
        refine WD.qg rfl rfl rfl rfl (fun _ hS=>r_move rfl) ?_
        refine WD.qg rfl rfl rfl rfl (fun _ hS=>r_nilp rfl) ?_
        refine WD.qg rfl rfl rfl rfl (fun _ hS=>r_fieldAddr rfl fo_61_0) ?_
        refine WD.qg rfl rfl rfl rfl (fun _ hS=>r_load one_9 rfl hS (hK3.get rfl)) ?_
        refine WD.qg rfl rfl rfl rfl (fun _ hS=>r_move rfl) ?_
        refine WD.qg rfl rfl rfl rfl (fun _ hS=>r_nilp rfl) ?_
        refine WD.qg rfl rfl rfl rfl (fun _ hS=>r_fieldAddr rfl fo_61_1) ?_
        refine WD.qg rfl rfl rfl rfl (fun _ hS=>r_load one_3 rfl hS (hK3.get rfl)) ?_
        refine WD.qg rfl rfl rfl rfl (fun _ hS=>r_idxs str_9 rfl rfl rfl (by assumption)) ?_
        refine WD.qg rfl rfl rfl rfl (fun _ hS=>r_cmp (r_geq rfl rfl) (decide_eq_true (by(omega)))) ?_
        refine WD.q rfl (fun _ hS=>r_pick rfl rfl rfl) ?_
        refine WD.q rfl (fun _ hS=>r_move rfl) ?_
        refine WD.qg rfl rfl rfl rfl (fun _ hS=>r_move rfl) ?_
        refine WD.qg rfl rfl rfl rfl (fun _ hS=>r_nilp rfl) ?_
        refine WD.qg rfl rfl rfl rfl (fun _ hS=>r_fieldAddr rfl fo_61_0) ?_
        refine WD.qg rfl rfl rfl rfl (fun _ hS=>r_load one_9 rfl hS (hK3.get rfl)) ?_
        refine WD.qg rfl rfl rfl rfl (fun _ hS=>r_move rfl) ?_
        refine WD.qg rfl rfl rfl rfl (fun _ hS=>r_nilp rfl) ?_
        refine WD.qg rfl rfl rfl rfl (fun _ hS=>r_fieldAddr rfl fo_61_1) ?_
        refine WD.qg rfl rfl rfl rfl (fun _ hS=>r_load one_3 rfl hS (hK3.get rfl)) ?_
        refine WD.qg rfl rfl rfl rfl (fun _ hS=>r_idxs str_9 rfl rfl rfl (by assumption)) ?_
        refine WD.qg rfl rfl rfl rfl (fun _ hS=>r_cmp (r_leq rfl rfl) (decide_eq_false (by(omega)))) ?_
        refine WD.q rfl (fun _ hS=>r_pick rfl rfl rfl) ?_
        refine WD.nil ?_
        refine WC.condF rfl ?_
        refine WC.exit ?_
        refine WC.seq<|WC.seq<|WC.region ?_
        refine WL.q rfl (r_move rfl) ?_
        refine WL.q rfl (r_nilp rfl) ?_
        refine WL.q rfl (r_fieldAddr rfl fo_61_1) ?_
        replace hK3:=hK3.mono (Ext.drew _)
        refine WL.q rfl (r_load one_3 rfl (Ext.refl _) (hK3.get rfl)) ?_
        refine WL.q rfl (r_move rfl) ?_
        refine WL.q rfl (r_cmp (r_eql rfl rfl) (beqF (by(omega)))) ?_
        refine WL.q rfl (r_move rfl) ?_
        refine WL.qg rfl rfl rfl rfl (r_move rfl) ?_
        refine WL.qg rfl rfl rfl rfl (r_nilp rfl) ?_
        refine WL.qg rfl rfl rfl rfl (r_fieldAddr rfl fo_61_1) ?_
        refine WL.qg rfl rfl rfl rfl (r_load one_3 rfl (Ext.refl _) (hK3.get rfl)) ?_
        refine WL.qg rfl rfl rfl rfl (r_move rfl) ?_
        refine WL.qg rfl rfl rfl rfl (r_subi rfl rfl rfl (by omega) (by omega)) ?_
        refine WL.qg rfl rfl rfl rfl (r_cmp (r_gtr rfl rfl) (decide_eq_true (by(omega)))) ?_
        refine WL.qg rfl rfl rfl rfl (r_move rfl) ?_
        refine WL.qg rfl rfl rfl rfl (r_move rfl) ?_
        refine WL.qg rfl rfl rfl rfl (r_nilp rfl) ?_
        refine WL.qg rfl rfl rfl rfl (r_fieldAddr rfl fo_61_0) ?_
        refine WL.qg rfl rfl rfl rfl (r_load one_9 rfl (Ext.refl _) (hK3.get rfl)) ?_
        refine WL.qg rfl rfl rfl rfl (r_move rfl) ?_
        refine WL.qg rfl rfl rfl rfl (r_idxs (j:=P) str_9 rfl rfl (by omega) qg0) ?_
        refine WL.qg rfl rfl rfl rfl (r_cmp (r_eql rfl rfl) (beqF (by(have:=qhd qlen;omega)))) ?_
        refine WL.qg rfl rfl rfl rfl (r_pick rfl rfl rfl) ?_
        refine WL.q rfl (r_pick rfl rfl rfl) ?_
        refine WL.q rfl (r_move rfl) ?_
        refine WL.qg rfl rfl rfl rfl (r_move rfl) ?_
        refine WL.qg rfl rfl rfl rfl (r_move rfl) ?_
        refine WL.qg rfl rfl rfl rfl (r_move rfl) ?_
        refine WL.qg rfl rfl rfl rfl (r_cmp (r_gtr rfl rfl) (decide_eq_false (by(omega)))) ?_
        refine WL.qg rfl rfl rfl rfl (r_pick rfl rfl rfl) ?_
        refine WL.q rfl (r_pick rfl rfl rfl) ?_
        refine WL.nil ?_
        refine WC.condF rfl ?_
        refine WC.skip ?_
        refine WC.seq<|WC.seq<|WC.region ?_
        refine WL.q rfl (r_move rfl) ?_
        refine WL.nil ?_
        refine WC.condT rfl ?_
        refine WC.seq<|WC.region ?_
        refine WL.q rfl (r_move rfl) ?_
        refine WL.q rfl (r_as (r_neg rfl) (show IntKind.u64.wrap (-(u:Int))=((18446744073709551616-u:Nat):Int) by rw[IntKind.wrap_u64];omega)) ?_
        refine WL.q rfl (r_bld (cs:=[_,_,_,_,_]) bld_25 rfl rfl) ?_
        replace hb1:=hb1.mono (Ext.drew _)
        refine WL.l0 (l_storeW sz_25 rfl rfl (by first|rfl|assumption|(simp[*];done)|simp[Value.oneCell', *]) (by first|rfl|simp[*]) hb1 (by first|rfl|simp[*])) fun _ w3 hh=>?_
        obtain⟨hb1,e3,hz3⟩:=hh
        have ns3:wi1.heap.size≤w3.heap.size:=e3.size
        refine WL.nil ?_
        refine WC.ret ?_
        replace hK3:=hK3.mono e3
        replace he:=((he.then hE).then (Ext.drew _)).then e3
        exact finC rfl hb1 rfl ⟨⟨_,rfl,rfl,rfl,rep0⟩,Jc hK3 (by omega),he⟩
end Go.Proofs.LL
