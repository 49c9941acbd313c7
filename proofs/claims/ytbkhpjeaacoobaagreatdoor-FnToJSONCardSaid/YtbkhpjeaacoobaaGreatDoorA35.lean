/- Contracts of functions and own laws. Conditions: those that each theorem states. -/
import Derived.Test.YtbkhpjeaacoobaaGreatDoorA34
set_option linter.all false
set_option maxRecDepth 20000
namespace Go.Proofs.LL
open Go Go.Proofs Go.RowKit
theorem body_37:bodyB Tryz.prog 37=true:=by kernel_rfl
theorem body_38:bodyB Tryz.prog 38=true:=by kernel_rfl
theorem fo_61_2:fOff Tryz.prog 61 2=some 2:=by kernel_rfl
theorem Jc{w:World}{jb:Nat}{s:List UInt8}{i j:Int}(h:Blk w jb [str s,.int .i64 i,.bool false])(e:i=j):Blk w jb [str s,.int .i64 j,.bool false]:=e▸h
theorem text_ok{jb p:Nat}{s t q r:List UInt8}{w:World}(hK:Jt w jb s p)(hq:Qt t q)(hd0:s.drop p=34::(q++34::r))(hv:Lib.validD t=true)(hU:UT w)(hj:1<jb)(hs:s.length≤1000000000000)(htl:t.length≤1000000000):
    Does Tryz.prog 31 [.pointer (some ⟨jb,0,none⟩)] w fun u w'=>u=str t∧Jt w' jb s (p+1+q.length+1)∧Evo (fun k=>k≠jb) w w':=by
  have hsz:({data:=s.toArray}:ByteArray).size=s.length:=rfl
  obtain⟨qp0,_,qd1⟩:=drop_c hd0
  have hlt:=hK.lt
  have qsl:=congrArg List.length hd0
  simp only[List.length_drop,List.length_cons,List.length_append]at qsl
  unfold Jt at hK⊢
  refine does1 Tryz.func31 rfl rfl rfl ?_
  have he:Evo (fun k=>k<w.heap.size∧k≠jb) w w:=Evo.refl w
  refine WC.seq<|WC.region ?_
  refine WL.q rfl (r_assign rfl) ?_
  refine WL.nil ?_
  refine WC.seq<|WC.region ?_
  refine WL.q rfl (r_assign rfl) ?_
  refine WL.nil ?_
  refine WC.seq<|WC.region ?_
  refine WL.q rfl (r_move rfl) ?_
  refine WL.q rfl (r_nilp rfl) ?_
  refine WL.q rfl (r_fieldAddr rfl fo_61_1) ?_
  refine WL.q rfl (r_load one_3 rfl (Ext.refl _) (hK.get rfl)) ?_
  refine WL.q rfl (r_addi rfl rfl rfl (by omega) (by omega)) ?_
  refine WL.q rfl (r_nilp rfl) ?_
  refine WL.q rfl (r_fieldAddr rfl fo_61_1) ?_
  refine WL.l0 (l_store sz_3 rfl rfl (by first|rfl|assumption|exact Own.one (by assumption)) hK rfl) fun _ w1 hh=>?_
  obtain⟨hK,e1,hz1⟩:=hh
  have ns1:w.heap.size≤w1.heap.size:=e1.size
  refine WL.nil ?_
  refine WC.seq<|WC.block ?_
  replace hU:=hU.mono e1
  replace he:=he.then e1
  refine WC.loop2 (ι:=(Nat×Value)) [(0,_),(2,_)] (fun a=>[(3,a.2)]) (fun a wi=>(∃t1 t2 q2,t=t1++t2∧Qt t2 q2∧q2.length=a.1∧s.drop (p+1+(q.length-a.1))=q2++34::r∧Own w.heap.size 5 1 wi a.2 t1.length (bc t1))∧Blk wi jb [str s,.int .i64 ((p+1+(q.length-a.1):Nat):Int),.bool false]∧a.1≤q.length∧Evo (fun k=>k<w.heap.size∧k≠jb) w1 wi) (fun a=>a.1) (q.length,.slice none 0 0) (.cons rfl (.cons rfl .nil)) (.cons rfl .nil) (⟨⟨[],t,q,rfl,hq,rfl,by rw[Nat.sub_self];exact qd1,Own.nil _ _ _ _⟩,Jc hK (by dsimp only;omega),Nat.le_refl _,Evo.refl _⟩) ?_
  intro a wi1 hh;obtain⟨hQ,hK,q1,hE⟩:=hh
  obtain⟨n,ov⟩:=a
  dsimp only at hQ hK q1⊢
  obtain⟨t1,t2,q2,qtt,qq,rfl,qd,hO⟩:=hQ
  have hT:=Since.mk hE
  have qsize:=hE.size
  obtain⟨P,qP⟩:∃P,P=p+1+(q.length-q2.length):=⟨_,rfl⟩
  rw[← qP]at qd hK
  have qol:=hO.lt
  have qtl:=congrArg List.length qtt
  rw[List.length_append]at qtl
  rcases qq with _| @⟨b,t3,q3,hb,hq3⟩| @⟨b,c,t3,q3,hb,hq3⟩| @⟨b,t3,q3,hb,hq3⟩| @⟨b,t3,q3,hb,hq3⟩
  · obtain⟨qp,hb1,_⟩:=drop_c qd
    rw[List.append_nil]at qtt
    subst qtt
    have hB:IsB (fun k=>w.heap.size≤k) wi1 ov t:=hO.toB
    replace hU:=hU.mono hE
    refine WC.seq<|WC.seq<|WC.regionD [(true,0),(true,1),(true,2),(true,3),(true,4),(true,5),(true,6),(true,7),(true,8),(true,9)] (Ext _) mixed (by kernel_rfl) (Ext.drew _) ?_
    have nd1wi1:wi1.drew.heap.size=wi1.heap.size:=rfl
    refine WD.q rfl (fun _ hS=>r_move rfl) ?_
    refine WD.q rfl (fun _ hS=>r_nilp rfl) ?_
    refine WD.q rfl (fun _ hS=>r_fieldAddr rfl fo_61_1) ?_
    refine WD.q rfl (fun _ hS=>r_load one_3 rfl hS (hK.get rfl)) ?_
    refine WD.q rfl (fun _ hS=>r_move rfl) ?_
    refine WD.q rfl (fun _ hS=>r_nilp rfl) ?_
    refine WD.q rfl (fun _ hS=>r_fieldAddr rfl fo_61_0) ?_
    refine WD.q rfl (fun _ hS=>r_load one_9 rfl hS (hK.get rfl)) ?_
    refine WD.q rfl (fun _ hS=>r_lens str_9 rfl) ?_
    refine WD.q rfl (fun _ hS=>r_cmp (r_lss rfl rfl) (decide_eq_true (by(omega)))) ?_
    refine WD.nil ?_
    refine WC.condT rfl ?_
    refine WC.skip ?_
    refine WC.block ?_
    replace hK:=hK.mono (Ext.drew _)
    replace hU:=hU.mono (Ext.drew _)
    replace hO:=hO.mono (Ext.drew _)
    replace hT:=hT.mono (Ext.drew _)
    replace hB:=hB.mono (Ext.drew _)
    refine WC.seq<|WC.regionD [(true,0),(true,1),(true,2),(true,3),(true,4),(true,5),(true,6),(true,7),(true,8),(true,9)] (Ext _) mixed (by kernel_rfl) (Ext.drew _) ?_
    have nd2wi1:wi1.drew.drew.heap.size=wi1.heap.size:=rfl
    have nd1wi1:wi1.drew.heap.size=wi1.heap.size:=rfl
    refine WD.q rfl (fun _ hS=>r_move rfl) ?_
    refine WD.q rfl (fun _ hS=>r_nilp rfl) ?_
    refine WD.q rfl (fun _ hS=>r_fieldAddr rfl fo_61_0) ?_
    refine WD.q rfl (fun _ hS=>r_load one_9 rfl hS (hK.get rfl)) ?_
    refine WD.q rfl (fun _ hS=>r_move rfl) ?_
    refine WD.q rfl (fun _ hS=>r_nilp rfl) ?_
    refine WD.q rfl (fun _ hS=>r_fieldAddr rfl fo_61_1) ?_
    refine WD.q rfl (fun _ hS=>r_load one_3 rfl hS (hK.get rfl)) ?_
    refine WD.q rfl (fun _ hS=>r_idxs str_9 rfl rfl rfl (by assumption)) ?_
    refine WD.q rfl (fun _ hS=>r_assign rfl) ?_
    refine WD.nil ?_
    refine WC.seq<|WC.region ?_
    refine WL.q rfl (r_move rfl) ?_
    refine WL.q rfl (r_nilp rfl) ?_
    refine WL.q rfl (r_fieldAddr rfl fo_61_1) ?_
    replace hK:=hK.mono (Ext.drew _)
    refine WL.q rfl (r_load one_3 rfl (Ext.refl _) (hK.get rfl)) ?_
    refine WL.q rfl (r_addi rfl rfl rfl (by omega) (by omega)) ?_
    refine WL.q rfl (r_nilp rfl) ?_
    refine WL.q rfl (r_fieldAddr rfl fo_61_1) ?_
    refine WL.l0 (l_store sz_3 rfl rfl (by first|rfl|assumption|exact Own.one (by assumption)) hK rfl) fun _ w2 hh=>?_
    obtain⟨hK,e2,hz2⟩:=hh
    have ns2:wi1.heap.size≤w2.heap.size:=e2.size
    refine WL.nil ?_
    refine WC.seq<|WC.block ?_
    refine WC.seq<|WC.region ?_
    refine WL.q rfl (r_move rfl) ?_
    refine WL.q rfl (r_cmp (r_eql rfl rfl) (beqT (by(rfl)))) ?_
    refine WL.q rfl (r_assign rfl) ?_
    refine WL.nil ?_
    refine WC.condT rfl ?_
    refine WC.seq<|WC.seq<|WC.region ?_
    refine WL.q rfl (r_move rfl) ?_
    replace hU:=(hU.mono (Ext.drew _)).mono e2
    replace hB:=(hB.mono (Ext.drew _)).mono e2
    refine WL.l rfl (l_do body_37 rfl (Valid_ok hB hU hv (by omega))) fun v3 w3 hh=>?_
    obtain⟨rfl,e3⟩:=hh
    have ns3:w2.heap.size≤w3.heap.size:=e3.size
    refine WL.q rfl (r_not rfl) ?_
    refine WL.nil ?_
    refine WC.condF rfl ?_
    refine WC.skip ?_
    refine WC.seq<|WC.region ?_
    refine WL.q rfl (r_move rfl) ?_
    replace hB:=hB.mono e3
    refine WL.q rfl (r_b2s (show b2sT Tryz.prog 27 9=true from by kernel_rfl) rfl (Ext.refl _) hB) ?_
    refine WL.q rfl (r_assign rfl) ?_
    refine WL.nil ?_
    refine WC.ret ?_
    replace hK:=hK.mono e3
    replace he:=((((he.then hE).then (Ext.drew _)).then (Ext.drew _)).then e2).then e3
    exact fin1 rfl ⟨rfl,Jc hK (by simp only[List.length_nil]at qP;omega),he.weaken fun k h1 h2=>⟨h1,h2⟩⟩
  · obtain⟨qp,hb1,qdn⟩:=drop_c (show s.drop P=b::(q3++34::r)from qd)
    have qb:b.toNat≠34∧b.toNat≠92∧32≤b.toNat:=by
      rcases hb with hb|⟨h1,h2,h3⟩
      · omega
      · exact⟨fun e=>h3 (UInt8.toNat_inj.1 e),fun e=>h2 (UInt8.toNat_inj.1 e),h1⟩
    simp only[List.length_cons]at qP q1 qtl
    replace hU:=hU.mono hE
    refine WC.seq<|WC.seq<|WC.regionD [(true,0),(true,1),(true,2),(true,3),(true,4),(true,5),(true,6),(true,7),(true,8),(true,9)] (Ext _) mixed (by kernel_rfl) (Ext.drew _) ?_
    have nd1wi1:wi1.drew.heap.size=wi1.heap.size:=rfl
    refine WD.q rfl (fun _ hS=>r_move rfl) ?_
    refine WD.q rfl (fun _ hS=>r_nilp rfl) ?_
    refine WD.q rfl (fun _ hS=>r_fieldAddr rfl fo_61_1) ?_
    refine WD.q rfl (fun _ hS=>r_load one_3 rfl hS (hK.get rfl)) ?_
    refine WD.q rfl (fun _ hS=>r_move rfl) ?_
    refine WD.q rfl (fun _ hS=>r_nilp rfl) ?_
    refine WD.q rfl (fun _ hS=>r_fieldAddr rfl fo_61_0) ?_
    refine WD.q rfl (fun _ hS=>r_load one_9 rfl hS (hK.get rfl)) ?_
    refine WD.q rfl (fun _ hS=>r_lens str_9 rfl) ?_
    refine WD.q rfl (fun _ hS=>r_cmp (r_lss rfl rfl) (decide_eq_true (by(omega)))) ?_
    refine WD.nil ?_
    refine WC.condT rfl ?_
    refine WC.skip ?_
    refine WC.block ?_
    replace hK:=hK.mono (Ext.drew _)
    replace hU:=hU.mono (Ext.drew _)
    replace hO:=hO.mono (Ext.drew _)
    replace hT:=hT.mono (Ext.drew _)
    refine WC.seq<|WC.regionD [(true,0),(true,1),(true,2),(true,3),(true,4),(true,5),(true,6),(true,7),(true,8),(true,9)] (Ext _) mixed (by kernel_rfl) (Ext.drew _) ?_
    have nd2wi1:wi1.drew.drew.heap.size=wi1.heap.size:=rfl
    have nd1wi1:wi1.drew.heap.size=wi1.heap.size:=rfl
    refine WD.q rfl (fun _ hS=>r_move rfl) ?_
    refine WD.q rfl (fun _ hS=>r_nilp rfl) ?_
    refine WD.q rfl (fun _ hS=>r_fieldAddr rfl fo_61_0) ?_
    refine WD.q rfl (fun _ hS=>r_load one_9 rfl hS (hK.get rfl)) ?_
    refine WD.q rfl (fun _ hS=>r_move rfl) ?_
    refine WD.q rfl (fun _ hS=>r_nilp rfl) ?_
    refine WD.q rfl (fun _ hS=>r_fieldAddr rfl fo_61_1) ?_
    refine WD.q rfl (fun _ hS=>r_load one_3 rfl hS (hK.get rfl)) ?_
    refine WD.q rfl (fun _ hS=>r_idxs str_9 rfl rfl rfl (by assumption)) ?_
    refine WD.q rfl (fun _ hS=>r_assign rfl) ?_
    refine WD.nil ?_
    refine WC.seq<|WC.region ?_
    refine WL.q rfl (r_move rfl) ?_
    refine WL.q rfl (r_nilp rfl) ?_
    refine WL.q rfl (r_fieldAddr rfl fo_61_1) ?_
    replace hK:=hK.mono (Ext.drew _)
    refine WL.q rfl (r_load one_3 rfl (Ext.refl _) (hK.get rfl)) ?_
    refine WL.q rfl (r_addi rfl rfl rfl (by omega) (by omega)) ?_
    refine WL.q rfl (r_nilp rfl) ?_
    refine WL.q rfl (r_fieldAddr rfl fo_61_1) ?_
    refine WL.l0 (l_store sz_3 rfl rfl (by first|rfl|assumption|exact Own.one (by assumption)) hK rfl) fun _ w2 hh=>?_
    obtain⟨hK,e2,hz2⟩:=hh
    have ns2:wi1.heap.size≤w2.heap.size:=e2.size
    refine WL.nil ?_
    refine WC.seq<|WC.block ?_
    refine WC.seq<|WC.region ?_
    refine WL.q rfl (r_move rfl) ?_
    refine WL.q rfl (r_cmp (r_eql rfl rfl) (beqF (by(omega)))) ?_
    refine WL.q rfl (r_assign rfl) ?_
    refine WL.nil ?_
    refine WC.condF rfl ?_
    refine WC.seq<|WC.region ?_
    refine WL.q rfl (r_move rfl) ?_
    refine WL.q rfl (r_cmp (r_lss rfl rfl) (decide_eq_false (by(omega)))) ?_
    refine WL.q rfl (r_assign rfl) ?_
    refine WL.nil ?_
    refine WC.condF rfl ?_
    refine WC.seq<|WC.region ?_
    refine WL.q rfl (r_move rfl) ?_
    refine WL.q rfl (r_cmp (r_eql rfl rfl) (beqF (by(omega)))) ?_
    refine WL.q rfl (r_assign rfl) ?_
    refine WL.nil ?_
    refine WC.condF rfl ?_
    refine WC.region ?_
    refine WL.q rfl (r_move rfl) ?_
    refine WL.q rfl (r_move rfl) ?_
    replace he:=(((he.then hE).then (Ext.drew _)).then (Ext.drew _)).then e2
    have hs3:=he.size
    refine WL.l rfl (l_lit (vs:=[_]) slz_27 rfl (by first|rfl|(simp[Value.cells,Nat.beq_eq, *];done)) rfl rfl rfl) fun _ w3 hh=>?_
    obtain⟨rfl,hb3,e3⟩:=hh
    have ns3:w2.heap.size≤w3.heap.size:=e3.size
    replace hO:=((hO.mono (Ext.drew _)).mono e2).mono e3
    refine WL.l rfl (l_app slz_27 rfl rfl hO (Src.at slk_27 hb3.at rfl rfl) (by omega) (by simp only[maxLen];omega) (by omega)) fun v4 w4 hh=>?_
    obtain⟨hO,e4⟩:=hh
    have ns4:w3.heap.size≤w4.heap.size:=e4.size
    refine WL.q rfl (r_assign rfl) ?_
    refine WL.nil ?_
    refine WC.seq<|WC.region ?_
    refine WL.q rfl (r_move rfl) ?_
    refine WL.q rfl (r_nilp rfl) ?_
    refine WL.q rfl (r_fieldAddr rfl fo_61_2) ?_
    replace hK:=(hK.mono e3).mono e4
    refine WL.q rfl (r_load one_4 rfl (Ext.refl _) (hK.get rfl)) ?_
    refine WL.nil ?_
    refine WC.condF rfl ?_
    refine WC.skip ?_
    have qO:=hO
    replace hT:=(((hT.mono (Ext.drew _)).mono e2).mono e3).mono e4
    exact⟨(q3.length,v4),(.cons rfl (.cons rfl .nil)),(.cons rfl .nil),⟨⟨t1++[b],t3,q3,by rw[qtt,List.append_assoc];rfl,hq3,rfl,by dsimp only;rw[show p+1+(q.length-q3.length)=P+1 by omega];exact qdn,by rw[List.length_append,bc_append];exact hO⟩,Jc hK (by dsimp only;omega),by dsimp only;omega,hT.evo⟩,(by simp only[List.length_cons];omega)⟩
  · obtain⟨qp,hb1,qdn⟩:=drop_c (show s.drop P=92::(c::(q3++34::r))from qd)
    obtain⟨_,_,qdm⟩:=drop_c qdn
    simp only[List.length_cons]at qP q1 qtl
    have hesc:∀W:World,Jt W jb s (P+1)→Does Tryz.prog 38 [.pointer (some ⟨jb,0,none⟩)] W fun u w'=>IsB (fun k=>W.heap.size≤k) w' u [b]∧Jt w' jb s (P+1+1)∧Evo (fun k=>k≠jb) W w':=by
      intro W hW
      rcases hb with⟨rfl,rfl⟩|⟨rfl,rfl⟩|⟨rfl,rfl⟩|⟨rfl,rfl⟩|⟨rfl,rfl⟩
      · exact esc_92 hW qdn hs
      · exact esc_34 hW qdn hs
      · exact esc_10 hW qdn hs
      · exact esc_13 hW qdn hs
      · exact esc_9 hW qdn hs
    replace hU:=hU.mono hE
    refine WC.seq<|WC.seq<|WC.regionD [(true,0),(true,1),(true,2),(true,3),(true,4),(true,5),(true,6),(true,7),(true,8),(true,9)] (Ext _) mixed (by kernel_rfl) (Ext.drew _) ?_
    have nd1wi1:wi1.drew.heap.size=wi1.heap.size:=rfl
    refine WD.q rfl (fun _ hS=>r_move rfl) ?_
    refine WD.q rfl (fun _ hS=>r_nilp rfl) ?_
    refine WD.q rfl (fun _ hS=>r_fieldAddr rfl fo_61_1) ?_
    refine WD.q rfl (fun _ hS=>r_load one_3 rfl hS (hK.get rfl)) ?_
    refine WD.q rfl (fun _ hS=>r_move rfl) ?_
    refine WD.q rfl (fun _ hS=>r_nilp rfl) ?_
    refine WD.q rfl (fun _ hS=>r_fieldAddr rfl fo_61_0) ?_
    refine WD.q rfl (fun _ hS=>r_load one_9 rfl hS (hK.get rfl)) ?_
    refine WD.q rfl (fun _ hS=>r_lens str_9 rfl) ?_
    refine WD.q rfl (fun _ hS=>r_cmp (r_lss rfl rfl) (decide_eq_true (by(omega)))) ?_
    refine WD.nil ?_
    refine WC.condT rfl ?_
    refine WC.skip ?_
    refine WC.block ?_
    replace hK:=hK.mono (Ext.drew _)
    replace hU:=hU.mono (Ext.drew _)
    replace hO:=hO.mono (Ext.drew _)
    replace hT:=hT.mono (Ext.drew _)
    refine WC.seq<|WC.regionD [(true,0),(true,1),(true,2),(true,3),(true,4),(true,5),(true,6),(true,7),(true,8),(true,9)] (Ext _) mixed (by kernel_rfl) (Ext.drew _) ?_
    have nd2wi1:wi1.drew.drew.heap.size=wi1.heap.size:=rfl
    have nd1wi1:wi1.drew.heap.size=wi1.heap.size:=rfl
    refine WD.q rfl (fun _ hS=>r_move rfl) ?_
    refine WD.q rfl (fun _ hS=>r_nilp rfl) ?_
    refine WD.q rfl (fun _ hS=>r_fieldAddr rfl fo_61_0) ?_
    refine WD.q rfl (fun _ hS=>r_load one_9 rfl hS (hK.get rfl)) ?_
    refine WD.q rfl (fun _ hS=>r_move rfl) ?_
    refine WD.q rfl (fun _ hS=>r_nilp rfl) ?_
    refine WD.q rfl (fun _ hS=>r_fieldAddr rfl fo_61_1) ?_
    refine WD.q rfl (fun _ hS=>r_load one_3 rfl hS (hK.get rfl)) ?_
    refine WD.q rfl (fun _ hS=>r_idxs str_9 rfl rfl rfl (by assumption)) ?_
    refine WD.q rfl (fun _ hS=>r_assign rfl) ?_
    refine WD.nil ?_
    refine WC.seq<|WC.region ?_
    refine WL.q rfl (r_move rfl) ?_
    refine WL.q rfl (r_nilp rfl) ?_
    refine WL.q rfl (r_fieldAddr rfl fo_61_1) ?_
    replace hK:=hK.mono (Ext.drew _)
    refine WL.q rfl (r_load one_3 rfl (Ext.refl _) (hK.get rfl)) ?_
    refine WL.q rfl (r_addi rfl rfl rfl (by omega) (by omega)) ?_
    refine WL.q rfl (r_nilp rfl) ?_
    refine WL.q rfl (r_fieldAddr rfl fo_61_1) ?_
    refine WL.l0 (l_store sz_3 rfl rfl (by first|rfl|assumption|exact Own.one (by assumption)) hK rfl) fun _ w2 hh=>?_
    obtain⟨hK,e2,hz2⟩:=hh
    have ns2:wi1.heap.size≤w2.heap.size:=e2.size
    refine WL.nil ?_
    refine WC.seq<|WC.block ?_
    refine WC.seq<|WC.region ?_
    refine WL.q rfl (r_move rfl) ?_
    refine WL.q rfl (r_cmp (r_eql rfl rfl) (beqF (by(decide)))) ?_
    refine WL.q rfl (r_assign rfl) ?_
    refine WL.nil ?_
    refine WC.condF rfl ?_
    refine WC.seq<|WC.region ?_
    refine WL.q rfl (r_move rfl) ?_
    refine WL.q rfl (r_cmp (r_lss rfl rfl) (decide_eq_false (by(decide)))) ?_
    refine WL.q rfl (r_assign rfl) ?_
    refine WL.nil ?_
    refine WC.condF rfl ?_
    refine WC.seq<|WC.region ?_
    refine WL.q rfl (r_move rfl) ?_
    refine WL.q rfl (r_cmp (r_eql rfl rfl) (beqT (by(rfl)))) ?_
    refine WL.q rfl (r_assign rfl) ?_
    refine WL.nil ?_
    refine WC.condT rfl ?_
    refine WC.region ?_
    refine WL.q rfl (r_move rfl) ?_
    refine WL.q rfl (r_move rfl) ?_
    refine WL.l rfl (l_do body_38 rfl (hesc _ (Jc hK (by omega)))) fun v3 w3 hh=>?_
    obtain⟨hB,hK,e3⟩:=hh
    have ns3:w2.heap.size≤w3.heap.size:=e3.size
    replace hO:=((hO.mono (Ext.drew _)).mono e2).mono e3
    refine WL.l rfl (l_app slz_27 rfl rfl hO (Src.isB slk_27 hB) (by omega) (by simp only[maxLen,List.length_cons,List.length_nil];omega) (by simp only[List.length_cons,List.length_nil];omega)) fun v4 w4 hh=>?_
    obtain⟨hO,e4⟩:=hh
    have ns4:w3.heap.size≤w4.heap.size:=e4.size
    refine WL.q rfl (r_assign rfl) ?_
    refine WL.nil ?_
    refine WC.seq<|WC.region ?_
    refine WL.q rfl (r_move rfl) ?_
    refine WL.q rfl (r_nilp rfl) ?_
    refine WL.q rfl (r_fieldAddr rfl fo_61_2) ?_
    replace hK:=hK.mono e4
    refine WL.q rfl (r_load one_4 rfl (Ext.refl _) (hK.get rfl)) ?_
    refine WL.nil ?_
    refine WC.condF rfl ?_
    refine WC.skip ?_
    have qO:=hO
    replace hT:=(((hT.mono (Ext.drew _)).mono e2).mono e3).mono e4
    exact⟨(q3.length,v4),(.cons rfl (.cons rfl .nil)),(.cons rfl .nil),⟨⟨t1++[b],t3,q3,by rw[qtt,List.append_assoc];rfl,hq3,rfl,by dsimp only;rw[show p+1+(q.length-q3.length)=P+1+1 by omega];exact qdm,by rw[List.length_append,bc_append];exact hO⟩,Jc hK (by dsimp only;omega),by dsimp only;omega,hT.evo⟩,(by simp only[List.length_cons];omega)⟩
  · obtain⟨qp,hb1,qdn⟩:=drop_c (show s.drop P=92::(117::48::48::hx (b.toNat / 16)::hx (b.toNat.mod 16)::(q3++34::r))from qd)
    have qdm:s.drop (P+1+5)=q3++34::r:=by rw[← List.drop_drop,qdn];rfl
    simp only[List.length_cons]at qP q1 qtl
    replace hU:=hU.mono hE
    refine WC.seq<|WC.seq<|WC.regionD [(true,0),(true,1),(true,2),(true,3),(true,4),(true,5),(true,6),(true,7),(true,8),(true,9)] (Ext _) mixed (by kernel_rfl) (Ext.drew _) ?_
    have nd1wi1:wi1.drew.heap.size=wi1.heap.size:=rfl
    refine WD.q rfl (fun _ hS=>r_move rfl) ?_
    refine WD.q rfl (fun _ hS=>r_nilp rfl) ?_
    refine WD.q rfl (fun _ hS=>r_fieldAddr rfl fo_61_1) ?_
    refine WD.q rfl (fun _ hS=>r_load one_3 rfl hS (hK.get rfl)) ?_
    refine WD.q rfl (fun _ hS=>r_move rfl) ?_
    refine WD.q rfl (fun _ hS=>r_nilp rfl) ?_
    refine WD.q rfl (fun _ hS=>r_fieldAddr rfl fo_61_0) ?_
    refine WD.q rfl (fun _ hS=>r_load one_9 rfl hS (hK.get rfl)) ?_
    refine WD.q rfl (fun _ hS=>r_lens str_9 rfl) ?_
    refine WD.q rfl (fun _ hS=>r_cmp (r_lss rfl rfl) (decide_eq_true (by(omega)))) ?_
    refine WD.nil ?_
    refine WC.condT rfl ?_
    refine WC.skip ?_
    refine WC.block ?_
    replace hK:=hK.mono (Ext.drew _)
    replace hU:=hU.mono (Ext.drew _)
    replace hO:=hO.mono (Ext.drew _)
    replace hT:=hT.mono (Ext.drew _)
    refine WC.seq<|WC.regionD [(true,0),(true,1),(true,2),(true,3),(true,4),(true,5),(true,6),(true,7),(true,8),(true,9)] (Ext _) mixed (by kernel_rfl) (Ext.drew _) ?_
    have nd2wi1:wi1.drew.drew.heap.size=wi1.heap.size:=rfl
    have nd1wi1:wi1.drew.heap.size=wi1.heap.size:=rfl
    refine WD.q rfl (fun _ hS=>r_move rfl) ?_
    refine WD.q rfl (fun _ hS=>r_nilp rfl) ?_
    refine WD.q rfl (fun _ hS=>r_fieldAddr rfl fo_61_0) ?_
    refine WD.q rfl (fun _ hS=>r_load one_9 rfl hS (hK.get rfl)) ?_
    refine WD.q rfl (fun _ hS=>r_move rfl) ?_
    refine WD.q rfl (fun _ hS=>r_nilp rfl) ?_
    refine WD.q rfl (fun _ hS=>r_fieldAddr rfl fo_61_1) ?_
    refine WD.q rfl (fun _ hS=>r_load one_3 rfl hS (hK.get rfl)) ?_
    refine WD.q rfl (fun _ hS=>r_idxs str_9 rfl rfl rfl (by assumption)) ?_
    refine WD.q rfl (fun _ hS=>r_assign rfl) ?_
    refine WD.nil ?_
    refine WC.seq<|WC.region ?_
    refine WL.q rfl (r_move rfl) ?_
    refine WL.q rfl (r_nilp rfl) ?_
    refine WL.q rfl (r_fieldAddr rfl fo_61_1) ?_
    replace hK:=hK.mono (Ext.drew _)
    refine WL.q rfl (r_load one_3 rfl (Ext.refl _) (hK.get rfl)) ?_
    refine WL.q rfl (r_addi rfl rfl rfl (by omega) (by omega)) ?_
    refine WL.q rfl (r_nilp rfl) ?_
    refine WL.q rfl (r_fieldAddr rfl fo_61_1) ?_
    refine WL.l0 (l_store sz_3 rfl rfl (by first|rfl|assumption|exact Own.one (by assumption)) hK rfl) fun _ w2 hh=>?_
    obtain⟨hK,e2,hz2⟩:=hh
    have ns2:wi1.heap.size≤w2.heap.size:=e2.size
    refine WL.nil ?_
    refine WC.seq<|WC.block ?_
    refine WC.seq<|WC.region ?_
    refine WL.q rfl (r_move rfl) ?_
    refine WL.q rfl (r_cmp (r_eql rfl rfl) (beqF (by(decide)))) ?_
    refine WL.q rfl (r_assign rfl) ?_
    refine WL.nil ?_
    refine WC.condF rfl ?_
    refine WC.seq<|WC.region ?_
    refine WL.q rfl (r_move rfl) ?_
    refine WL.q rfl (r_cmp (r_lss rfl rfl) (decide_eq_false (by(decide)))) ?_
    refine WL.q rfl (r_assign rfl) ?_
    refine WL.nil ?_
    refine WC.condF rfl ?_
    refine WC.seq<|WC.region ?_
    refine WL.q rfl (r_move rfl) ?_
    refine WL.q rfl (r_cmp (r_eql rfl rfl) (beqT (by(rfl)))) ?_
    refine WL.q rfl (r_assign rfl) ?_
    refine WL.nil ?_
    refine WC.condT rfl ?_
    refine WC.region ?_
    refine WL.q rfl (r_move rfl) ?_
    refine WL.q rfl (r_move rfl) ?_
    refine WL.l rfl (l_do body_38 rfl (esc_hex (p:=P+1) hb (Jc hK (by omega)) qdn hs)) fun v3 w3 hh=>?_
    obtain⟨hB,hK,e3⟩:=hh
    have ns3:w2.heap.size≤w3.heap.size:=e3.size
    replace hO:=((hO.mono (Ext.drew _)).mono e2).mono e3
    refine WL.l rfl (l_app slz_27 rfl rfl hO (Src.isB slk_27 hB) (by omega) (by simp only[maxLen,List.length_cons,List.length_nil];omega) (by simp only[List.length_cons,List.length_nil];omega)) fun v4 w4 hh=>?_
    obtain⟨hO,e4⟩:=hh
    have ns4:w3.heap.size≤w4.heap.size:=e4.size
    refine WL.q rfl (r_assign rfl) ?_
    refine WL.nil ?_
    refine WC.seq<|WC.region ?_
    refine WL.q rfl (r_move rfl) ?_
    refine WL.q rfl (r_nilp rfl) ?_
    refine WL.q rfl (r_fieldAddr rfl fo_61_2) ?_
    replace hK:=hK.mono e4
    refine WL.q rfl (r_load one_4 rfl (Ext.refl _) (hK.get rfl)) ?_
    refine WL.nil ?_
    refine WC.condF rfl ?_
    refine WC.skip ?_
    have qO:=hO
    replace hT:=(((hT.mono (Ext.drew _)).mono e2).mono e3).mono e4
    exact⟨(q3.length,v4),(.cons rfl (.cons rfl .nil)),(.cons rfl .nil),⟨⟨t1++[b],t3,q3,by rw[qtt,List.append_assoc];rfl,hq3,rfl,by dsimp only;rw[show p+1+(q.length-q3.length)=P+1+5 by omega];exact qdm,by rw[List.length_append,bc_append];exact hO⟩,Jc hK (by dsimp only;omega),by dsimp only;omega,hT.evo⟩,(by simp only[List.length_cons];omega)⟩
  · obtain⟨qp,hb1,qdn⟩:=drop_c (show s.drop P=92::(117::50::48::50::hx (b.toNat-160)::(q3++34::r))from qd)
    have qdm:s.drop (P+1+5)=q3++34::r:=by rw[← List.drop_drop,qdn];rfl
    simp only[List.length_cons]at qP q1 qtl
    have hesc:∀W:World,Jt W jb s (P+1)→Does Tryz.prog 38 [.pointer (some ⟨jb,0,none⟩)] W fun u w'=>IsB (fun k=>W.heap.size≤k) w' u [226,128,b]∧Jt w' jb s (P+1+5)∧Evo (fun k=>k≠jb) W w':=by
      intro W hW
      rcases hb with rfl|rfl
      · exact esc_sep168 hW qdn hs
      · exact esc_sep169 hW qdn hs
    replace hU:=hU.mono hE
    refine WC.seq<|WC.seq<|WC.regionD [(true,0),(true,1),(true,2),(true,3),(true,4),(true,5),(true,6),(true,7),(true,8),(true,9)] (Ext _) mixed (by kernel_rfl) (Ext.drew _) ?_
    have nd1wi1:wi1.drew.heap.size=wi1.heap.size:=rfl
    refine WD.q rfl (fun _ hS=>r_move rfl) ?_
    refine WD.q rfl (fun _ hS=>r_nilp rfl) ?_
    refine WD.q rfl (fun _ hS=>r_fieldAddr rfl fo_61_1) ?_
    refine WD.q rfl (fun _ hS=>r_load one_3 rfl hS (hK.get rfl)) ?_
    refine WD.q rfl (fun _ hS=>r_move rfl) ?_
    refine WD.q rfl (fun _ hS=>r_nilp rfl) ?_
    refine WD.q rfl (fun _ hS=>r_fieldAddr rfl fo_61_0) ?_
    refine WD.q rfl (fun _ hS=>r_load one_9 rfl hS (hK.get rfl)) ?_
    refine WD.q rfl (fun _ hS=>r_lens str_9 rfl) ?_
    refine WD.q rfl (fun _ hS=>r_cmp (r_lss rfl rfl) (decide_eq_true (by(omega)))) ?_
    refine WD.nil ?_
    refine WC.condT rfl ?_
    refine WC.skip ?_
    refine WC.block ?_
    replace hK:=hK.mono (Ext.drew _)
    replace hU:=hU.mono (Ext.drew _)
    replace hO:=hO.mono (Ext.drew _)
    replace hT:=hT.mono (Ext.drew _)
    refine WC.seq<|WC.regionD [(true,0),(true,1),(true,2),(true,3),(true,4),(true,5),(true,6),(true,7),(true,8),(true,9)] (Ext _) mixed (by kernel_rfl) (Ext.drew _) ?_
    have nd2wi1:wi1.drew.drew.heap.size=wi1.heap.size:=rfl
    have nd1wi1:wi1.drew.heap.size=wi1.heap.size:=rfl
    refine WD.q rfl (fun _ hS=>r_move rfl) ?_
    refine WD.q rfl (fun _ hS=>r_nilp rfl) ?_
    refine WD.q rfl (fun _ hS=>r_fieldAddr rfl fo_61_0) ?_
    refine WD.q rfl (fun _ hS=>r_load one_9 rfl hS (hK.get rfl)) ?_
    refine WD.q rfl (fun _ hS=>r_move rfl) ?_
    refine WD.q rfl (fun _ hS=>r_nilp rfl) ?_
    refine WD.q rfl (fun _ hS=>r_fieldAddr rfl fo_61_1) ?_
    refine WD.q rfl (fun _ hS=>r_load one_3 rfl hS (hK.get rfl)) ?_
    refine WD.q rfl (fun _ hS=>r_idxs str_9 rfl rfl rfl (by assumption)) ?_
    refine WD.q rfl (fun _ hS=>r_assign rfl) ?_
    refine WD.nil ?_
    refine WC.seq<|WC.region ?_
    refine WL.q rfl (r_move rfl) ?_
    refine WL.q rfl (r_nilp rfl) ?_
    refine WL.q rfl (r_fieldAddr rfl fo_61_1) ?_
    replace hK:=hK.mono (Ext.drew _)
    refine WL.q rfl (r_load one_3 rfl (Ext.refl _) (hK.get rfl)) ?_
    refine WL.q rfl (r_addi rfl rfl rfl (by omega) (by omega)) ?_
    refine WL.q rfl (r_nilp rfl) ?_
    refine WL.q rfl (r_fieldAddr rfl fo_61_1) ?_
    refine WL.l0 (l_store sz_3 rfl rfl (by first|rfl|assumption|exact Own.one (by assumption)) hK rfl) fun _ w2 hh=>?_
    obtain⟨hK,e2,hz2⟩:=hh
    have ns2:wi1.heap.size≤w2.heap.size:=e2.size
    refine WL.nil ?_
    refine WC.seq<|WC.block ?_
    refine WC.seq<|WC.region ?_
    refine WL.q rfl (r_move rfl) ?_
    refine WL.q rfl (r_cmp (r_eql rfl rfl) (beqF (by(decide)))) ?_
    refine WL.q rfl (r_assign rfl) ?_
    refine WL.nil ?_
    refine WC.condF rfl ?_
    refine WC.seq<|WC.region ?_
    refine WL.q rfl (r_move rfl) ?_
    refine WL.q rfl (r_cmp (r_lss rfl rfl) (decide_eq_false (by(decide)))) ?_
    refine WL.q rfl (r_assign rfl) ?_
    refine WL.nil ?_
    refine WC.condF rfl ?_
    refine WC.seq<|WC.region ?_
    refine WL.q rfl (r_move rfl) ?_
    refine WL.q rfl (r_cmp (r_eql rfl rfl) (beqT (by(rfl)))) ?_
    refine WL.q rfl (r_assign rfl) ?_
    refine WL.nil ?_
    refine WC.condT rfl ?_
    refine WC.region ?_
    refine WL.q rfl (r_move rfl) ?_
    refine WL.q rfl (r_move rfl) ?_
    refine WL.l rfl (l_do body_38 rfl (hesc _ (Jc hK (by omega)))) fun v3 w3 hh=>?_
    obtain⟨hB,hK,e3⟩:=hh
    have ns3:w2.heap.size≤w3.heap.size:=e3.size
    replace hO:=((hO.mono (Ext.drew _)).mono e2).mono e3
    refine WL.l rfl (l_app slz_27 rfl rfl hO (Src.isB slk_27 hB) (by omega) (by simp only[maxLen,List.length_cons,List.length_nil];omega) (by simp only[List.length_cons,List.length_nil];omega)) fun v4 w4 hh=>?_
    obtain⟨hO,e4⟩:=hh
    have ns4:w3.heap.size≤w4.heap.size:=e4.size
    refine WL.q rfl (r_assign rfl) ?_
    refine WL.nil ?_
    refine WC.seq<|WC.region ?_
    refine WL.q rfl (r_move rfl) ?_
    refine WL.q rfl (r_nilp rfl) ?_
    refine WL.q rfl (r_fieldAddr rfl fo_61_2) ?_
    replace hK:=hK.mono e4
    refine WL.q rfl (r_load one_4 rfl (Ext.refl _) (hK.get rfl)) ?_
    refine WL.nil ?_
    refine WC.condF rfl ?_
    refine WC.skip ?_
    have qO:=hO
    replace hT:=(((hT.mono (Ext.drew _)).mono e2).mono e3).mono e4
    exact⟨(q3.length,v4),(.cons rfl (.cons rfl .nil)),(.cons rfl .nil),⟨⟨t1++[226,128,b],t3,q3,by rw[qtt,List.append_assoc];rfl,hq3,rfl,by dsimp only;rw[show p+1+(q.length-q3.length)=P+1+5 by omega];exact qdm,by rw[List.length_append,bc_append];exact hO⟩,Jc hK (by dsimp only;omega),by dsimp only;omega,hT.evo⟩,(by simp only[List.length_cons];omega)⟩
end Go.Proofs.LL
