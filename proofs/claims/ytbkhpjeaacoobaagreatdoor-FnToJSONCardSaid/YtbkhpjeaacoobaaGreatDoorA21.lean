/- Contracts of functions and own laws. Conditions: those that each theorem states. -/
import Derived.Test.YtbkhpjeaacoobaaGreatDoorA20
set_option linter.all false
set_option maxRecDepth 20000
namespace Go.Proofs.LL
open Go Go.Proofs Go.RowKit
theorem cv_21_5:cvInt Tryz.prog 21 5=some .u8:=by kernel_rfl
theorem cv_5_69:cvInt Tryz.prog 5 69=some .u64:=by kernel_rfl
theorem encAt{w:World}{eb k:Nat}{dm:List Value}(h:Blk w eb (encC dm))(hk:k<64):w.cell? ⟨eb,0+0+k * 1,none⟩=some (.int .u8 ((sg k).toNat:Int)):=by
  rw[Nat.mul_one,Nat.zero_add]
  exact h.get (encC_sg hk)
theorem encPad{w:World}{eb:Nat}{dm:List Value}(h:Blk w eb (encC dm))(hd:dm.length=256):w.cell? ⟨eb,0+320,none⟩=some (.int .i32 61):=h.get (j:=320) (encC_pad hd)
theorem Encode_nil{A:Nat→Prop}{eb:Nat}{u d:Value}{w:World}(hI:IsB A w u []):
    Does Tryz.prog 63 [.pointer (some ⟨eb,0,none⟩),d,u] w fun r w'=>r= .tuple #[]∧Ext w w':=by
  obtain⟨pu,cu,rfl,_,_⟩:=hI
  refine does0 Tryz.func63 rfl rfl rfl ?_
  refine WC.seq<|WC.seq<|WC.region ?_
  refine WL.q rfl (r_move rfl) ?_
  refine WL.q rfl (r_len sl_27 rfl) ?_
  refine WL.q rfl (r_cmp (r_eql rfl rfl) (beqT (by(rfl)))) ?_
  refine WL.nil ?_
  refine WC.condT rfl ?_
  refine WC.ret ?_
  exact fin0 (ρ:=argsFr 0 []) (R:=fun r w'=>r= .tuple #[]∧Ext w w') ⟨rfl,Ext.refl _⟩
theorem Encode_ok{A:Nat→Prop}{eb g n c:Nat}{t:List UInt8}{u:Value}{cs:List Value}{w:World}(hE:EncB w eb)(hI:IsB A w u t)(hA:∀b,A b→b≠g)(hne:eb≠g)(qK:BlkT 5 w g cs)(hn:n=(b64 t).length)(hnc:n≤c)(hcs:n≤cs.length)(ht:0<t.length)(ht1:t.length≤1000000):
    Does Tryz.prog 63 [.pointer (some ⟨eb,0,none⟩),.slice (some ⟨g,0,none⟩) n c,u] w fun r w'=>r= .tuple #[]∧SB w' g (b64 t) cs∧Evo (fun k=>k≠g) w w':=by
  obtain⟨dm,hdm,hM⟩:=hE
  have hml:=hM.lt
  have hgl:=qK.blk.lt
  have qarr:arrT Tryz.prog 152=some (64,1):=by kernel_rfl
  have hl:=b64_len t
  replace hI:=hI.weaken (B:=fun b=>b≠g) fun b _ h=>hA b h
  obtain⟨pu,cu,rfl,hcu,_⟩:=id hI
  refine does0 Tryz.func63 rfl rfl rfl ?_
  have he:Evo (fun k=>k≠g) w w:=Evo.refl w
  refine WC.seq<|WC.seq<|WC.region ?_
  refine WL.q rfl (r_move rfl) ?_
  refine WL.q rfl (r_len sl_27 rfl) ?_
  refine WL.q rfl (r_cmp (r_eql rfl rfl) (beqF (by(omega)))) ?_
  refine WL.nil ?_
  refine WC.condF rfl ?_
  refine WC.skip ?_
  refine WC.seq<|WC.region ?_
  refine WL.q rfl (r_move rfl) ?_
  refine WL.q rfl (r_nilp rfl) ?_
  refine WL.q rfl (r_fieldAddr rfl fo_154_0) ?_
  refine WL.q rfl (r_loadAgg (show aggT Tryz.prog 152=some 64 from by kernel_rfl) rfl (Ext.refl _) (l:=bc b64T) (b:=eb) (o:=0) (fun j hj=>by rw[Nat.zero_add,hM.cell];unfold encC;rw[List.getElem?_append_left hj])) ?_
  refine WL.nil ?_
  refine WC.seq<|WC.block ?_
  refine WC.loop2 (ι:=(Nat×Value×Value)) [(0,_)] (fun a=>[(1,a.2.1),(2,a.2.2)]) (fun a wi=>(∃s,SB wi g s cs∧DV g n c s.length a.2.1∧s.length=4 * a.1∧b64 t=s++b64 (t.drop (3 * a.1)))∧IsB (fun b=>b≠g) wi a.2.2 (t.drop (3 * a.1))∧3 * a.1≤t.length∧Evo (fun k=>k≠g) w wi) (fun a=>t.length-3 * a.1) (0,.slice (some ⟨g,0,none⟩) n c,.slice pu t.length cu) (.cons rfl .nil) (.cons rfl (.cons rfl .nil)) (⟨⟨[],by simpa[SB]using qK,⟨_,rfl,fun _=>rfl⟩,rfl,rfl⟩,hI,by omega,Evo.refl _⟩) ?_
  intro a wi1 hh;obtain⟨⟨s,hB,qD,qs,qt⟩,hJ,na,hE⟩:=hh
  obtain⟨i,dv,sv⟩:=a
  dsimp only at hB qD qs qt hJ na
  obtain⟨pd,rfl,qp⟩:=qD
  obtain⟨pj,cj,rfl,hcj,_⟩:=id hJ
  generalize hr:t.drop (3 * i)=r at qt hJ hcj
  have hrl:r.length=t.length-3 * i:=by rw[← hr,List.length_drop]
  have hbl:=b64_len r
  have hlen:(b64 t).length=s.length+(b64 r).length:=by rw[qt,List.length_append]
  unfold SB at hB
  rcases r with _|⟨x,_|⟨y,_|⟨z,r'⟩⟩⟩
  · skip
    refine WC.seq<|WC.seq<|WC.region ?_
    refine WL.q rfl (r_move rfl) ?_
    refine WL.q rfl (r_len sl_27 rfl) ?_
    refine WL.q rfl (r_cmp (r_geq rfl rfl) (decide_eq_false (by(simp)))) ?_
    refine WL.nil ?_
    refine WC.condF rfl ?_
    refine WC.exit ?_
    refine WC.seq<|WC.region ?_
    refine WL.q rfl (r_move rfl) ?_
    refine WL.q rfl (r_len sl_27 rfl) ?_
    refine WL.nil ?_
    refine WC.block ?_
    refine WC.seq<|WC.region ?_
    refine WL.q rfl (r_cmp (r_eql rfl rfl) (beqT (by(rfl)))) ?_
    refine WL.q rfl (r_assign rfl) ?_
    refine WL.nil ?_
    refine WC.condT rfl ?_
    refine WC.ret ?_
    replace he:=he.then hE
    exact fin0 (ρ:=argsFr 0 []) (R:=fun r w'=>r= .tuple #[]∧SB w' g (b64 t) cs∧Evo (fun k=>k≠g) w w') ⟨rfl,by rw[qt,b64,List.append_nil];exact hB,he⟩
  · skip
    obtain⟨b0,o0,c0,qe,qc0,qA0,hD0⟩:=hJ.open (by simp)
    cases qe
    simp only[List.length_cons,List.length_nil]at hrl hbl qc0 hcj
    have qpd:=qp (by omega)
    subst qpd
    have d0:=hD0.get 0 (by simp)
    simp only[List.getElem_cons_zero]at d0
    have qn:x.toNat * 65536<16777216:=by have:=UInt8.toNat_lt x;omega
    refine WC.seq<|WC.seq<|WC.region ?_
    refine WL.q rfl (r_move rfl) ?_
    refine WL.q rfl (r_len sl_27 rfl) ?_
    refine WL.q rfl (r_cmp (r_geq rfl rfl) (decide_eq_false (by(simp)))) ?_
    refine WL.nil ?_
    refine WC.condF rfl ?_
    refine WC.exit ?_
    refine WC.seq<|WC.region ?_
    refine WL.q rfl (r_move rfl) ?_
    refine WL.q rfl (r_len sl_27 rfl) ?_
    refine WL.nil ?_
    refine WC.block ?_
    refine WC.seq<|WC.region ?_
    refine WL.q rfl (r_cmp (r_eql rfl rfl) (beqF (by(simp)))) ?_
    refine WL.q rfl (r_assign rfl) ?_
    refine WL.nil ?_
    refine WC.condF rfl ?_
    refine WC.seq<|WC.region ?_
    refine WL.q rfl (r_cmp (r_eql rfl rfl) (beqT (by(rfl)))) ?_
    refine WL.q rfl (r_assign rfl) ?_
    refine WL.nil ?_
    refine WC.condT rfl ?_
    refine WC.seq<|WC.region ?_
    refine WL.q rfl (r_move rfl) ?_
    refine WL.q rfl (r_idx1 sl_27 rfl rfl rfl (by first|omega|(simp;done)|(simp;omega))) ?_
    refine WL.q rfl (r_load one_5 rfl (Ext.refl _) d0) ?_
    refine WL.q rfl (r_cvInt cv_5_69 rfl) ?_
    refine WL.q rfl (r_as (r_shl rfl rfl (by decide)) (val1 x)) ?_
    refine WL.q rfl (r_assign rfl) ?_
    refine WL.nil ?_
    refine WC.seq<|WC.region ?_
    refine WL.q rfl (r_move rfl) ?_
    refine WL.q rfl (r_move rfl) ?_
    refine WL.q rfl (r_move rfl) ?_
    refine WL.q rfl (r_shr rfl rfl (by decide)) ?_
    refine WL.q rfl (r_as (r_bitand rfl rfl) (sgu 18 (by decide) qn)) ?_
    refine WL.q rfl (r_nilp rfl) ?_
    refine WL.q rfl (r_fieldAddr rfl fo_154_0) ?_
    refine WL.q rfl (r_idxA qarr rfl rfl rfl (Nat.mod_lt _ (by decide))) ?_
    replace hM:=hM.mono hE
    refine WL.q rfl (r_load one_5 rfl (Ext.refl _) (encAt hM (Nat.mod_lt _ (by decide)))) ?_
    refine WL.q rfl (r_idx1 sl_27 rfl rfl rfl (by first|omega|(simp;done)|(simp;omega))) ?_
    refine WL.l0 (l_storeT sz_5 rfl rfl rfl hB (by simp[Nat.blt_eq];omega)) fun _ w1 hh=>?_
    obtain⟨hB,e1,hz1⟩:=hh
    refine WL.nil ?_
    refine WC.seq<|WC.region ?_
    refine WL.q rfl (r_move rfl) ?_
    refine WL.q rfl (r_move rfl) ?_
    refine WL.q rfl (r_move rfl) ?_
    refine WL.q rfl (r_shr rfl rfl (by decide)) ?_
    refine WL.q rfl (r_as (r_bitand rfl rfl) (sgu 12 (by decide) qn)) ?_
    refine WL.q rfl (r_nilp rfl) ?_
    refine WL.q rfl (r_fieldAddr rfl fo_154_0) ?_
    refine WL.q rfl (r_idxA qarr rfl rfl rfl (Nat.mod_lt _ (by decide))) ?_
    replace hM:=hM.mono e1
    refine WL.q rfl (r_load one_5 rfl (Ext.refl _) (encAt hM (Nat.mod_lt _ (by decide)))) ?_
    refine WL.q rfl (r_idx1 sl_27 rfl rfl rfl (by first|omega|(simp;done)|(simp;omega))) ?_
    refine WL.l0 (l_storeT sz_5 rfl rfl rfl hB (by simp[Nat.blt_eq];omega)) fun _ w2 hh=>?_
    obtain⟨hB,e2,hz2⟩:=hh
    refine WL.nil ?_
    refine WC.seq<|WC.region ?_
    refine WL.q rfl (r_move rfl) ?_
    refine WL.q rfl (r_nilp rfl) ?_
    refine WL.q rfl (r_fieldAddr rfl fo_154_2) ?_
    replace hM:=hM.mono e2
    refine WL.q rfl (r_load one_21 rfl (Ext.refl _) (encPad hM hdm)) ?_
    refine WL.q rfl (r_cmp (r_neq rfl rfl) (bneT (by(decide)))) ?_
    refine WL.nil ?_
    refine WC.condT rfl ?_
    refine WC.seq<|WC.region ?_
    refine WL.q rfl (r_move rfl) ?_
    refine WL.q rfl (r_move rfl) ?_
    refine WL.q rfl (r_nilp rfl) ?_
    refine WL.q rfl (r_fieldAddr rfl fo_154_2) ?_
    refine WL.q rfl (r_load one_21 rfl (Ext.refl _) (encPad hM hdm)) ?_
    refine WL.q rfl (r_cvInt cv_21_5 rfl) ?_
    refine WL.q rfl (r_idx1 sl_27 rfl rfl rfl (by first|omega|(simp;done)|(simp;omega))) ?_
    refine WL.l0 (l_storeT sz_5 rfl rfl rfl hB (by simp[Nat.blt_eq];omega)) fun _ w3 hh=>?_
    obtain⟨hB,e3,hz3⟩:=hh
    refine WL.nil ?_
    refine WC.region ?_
    refine WL.q rfl (r_move rfl) ?_
    refine WL.q rfl (r_move rfl) ?_
    refine WL.q rfl (r_nilp rfl) ?_
    refine WL.q rfl (r_fieldAddr rfl fo_154_2) ?_
    replace hM:=hM.mono e3
    refine WL.q rfl (r_load one_21 rfl (Ext.refl _) (encPad hM hdm)) ?_
    refine WL.q rfl (r_cvInt cv_21_5 rfl) ?_
    refine WL.q rfl (r_idx1 sl_27 rfl rfl rfl (by first|omega|(simp;done)|(simp;omega))) ?_
    refine WL.l0 (l_storeT sz_5 rfl rfl rfl hB (by simp[Nat.blt_eq];omega)) fun _ w4 hh=>?_
    obtain⟨hB,e4,hz4⟩:=hh
    refine WL.nil ?_
    have qg:b64 [x]=[sg ((x.toNat * 65536) / 2^18%64),sg ((x.toNat * 65536) / 2^12%64),61,61]:=by rw[b64];rfl
    replace he:=((((he.then hE).then e1).then e2).then e3).then e4
    exact fin0n (ρ:=argsFr 0 []) (R:=fun r w'=>r= .tuple #[]∧SB w' g (b64 t) cs∧Evo (fun k=>k≠g) w w') ⟨rfl,by rw[qt,qg];exact SB.put (by omega) hB,he⟩
  · skip
    obtain⟨b0,o0,c0,qe,qc0,qA0,hD0⟩:=hJ.open (by simp)
    cases qe
    simp only[List.length_cons,List.length_nil]at hrl hbl qc0 hcj
    have qpd:=qp (by omega)
    subst qpd
    have d0:=hD0.get 0 (by simp)
    have d1:=hD0.get 1 (by simp)
    simp only[List.getElem_cons_zero,List.getElem_cons_succ]at d0 d1
    have qn:x.toNat * 65536+y.toNat * 256<16777216:=by have:=UInt8.toNat_lt x;have:=UInt8.toNat_lt y;omega
    refine WC.seq<|WC.seq<|WC.region ?_
    refine WL.q rfl (r_move rfl) ?_
    refine WL.q rfl (r_len sl_27 rfl) ?_
    refine WL.q rfl (r_cmp (r_geq rfl rfl) (decide_eq_false (by(simp)))) ?_
    refine WL.nil ?_
    refine WC.condF rfl ?_
    refine WC.exit ?_
    refine WC.seq<|WC.region ?_
    refine WL.q rfl (r_move rfl) ?_
    refine WL.q rfl (r_len sl_27 rfl) ?_
    refine WL.nil ?_
    refine WC.block ?_
    refine WC.seq<|WC.region ?_
    refine WL.q rfl (r_cmp (r_eql rfl rfl) (beqF (by(simp)))) ?_
    refine WL.q rfl (r_assign rfl) ?_
    refine WL.nil ?_
    refine WC.condF rfl ?_
    refine WC.seq<|WC.region ?_
    refine WL.q rfl (r_cmp (r_eql rfl rfl) (beqF (by(simp)))) ?_
    refine WL.q rfl (r_assign rfl) ?_
    refine WL.nil ?_
    refine WC.condF rfl ?_
    refine WC.seq<|WC.region ?_
    refine WL.q rfl (r_cmp (r_eql rfl rfl) (beqT (by(rfl)))) ?_
    refine WL.q rfl (r_assign rfl) ?_
    refine WL.nil ?_
    refine WC.condT rfl ?_
    replace hM:=hM.mono hE
    replace hI:=hI.mono hE
    refine WC.seq<|WC.regionD [(true,0),(true,1),(true,2),(true,3),(true,4),(true,5),(true,6),(true,7),(true,8),(true,9),(true,10),(true,11)] (Ext _) mixed (by kernel_rfl) (Ext.drew _) ?_
    refine WD.q rfl (fun _ hS=>r_move rfl) ?_
    refine WD.q rfl (fun _ hS=>r_idx1 sl_27 rfl rfl rfl (by first|omega|(simp;done)|(simp;omega))) ?_
    refine WD.q rfl (fun _ hS=>r_load one_5 rfl hS d0) ?_
    refine WD.q rfl (fun _ hS=>r_cvInt cv_5_69 rfl) ?_
    refine WD.q rfl (fun _ hS=>r_shl rfl rfl (by decide)) ?_
    refine WD.q rfl (fun _ hS=>r_move rfl) ?_
    refine WD.q rfl (fun _ hS=>r_idx1 sl_27 rfl rfl rfl (by first|omega|(simp;done)|(simp;omega))) ?_
    refine WD.q rfl (fun _ hS=>r_load one_5 rfl hS d1) ?_
    refine WD.q rfl (fun _ hS=>r_cvInt cv_5_69 rfl) ?_
    refine WD.q rfl (fun _ hS=>r_shl rfl rfl (by decide)) ?_
    refine WD.q rfl (fun _ hS=>r_as (r_bitor rfl rfl) (val2 x y)) ?_
    refine WD.q rfl (fun _ hS=>r_assign rfl) ?_
    refine WD.nil ?_
    refine WC.seq<|WC.region ?_
    refine WL.q rfl (r_move rfl) ?_
    refine WL.q rfl (r_move rfl) ?_
    refine WL.q rfl (r_move rfl) ?_
    refine WL.q rfl (r_shr rfl rfl (by decide)) ?_
    refine WL.q rfl (r_as (r_bitand rfl rfl) (sgu 18 (by decide) qn)) ?_
    refine WL.q rfl (r_nilp rfl) ?_
    refine WL.q rfl (r_fieldAddr rfl fo_154_0) ?_
    refine WL.q rfl (r_idxA qarr rfl rfl rfl (Nat.mod_lt _ (by decide))) ?_
    replace hM:=hM.mono (Ext.drew _)
    refine WL.q rfl (r_load one_5 rfl (Ext.refl _) (encAt hM (Nat.mod_lt _ (by decide)))) ?_
    refine WL.q rfl (r_idx1 sl_27 rfl rfl rfl (by first|omega|(simp;done)|(simp;omega))) ?_
    replace hB:=hB.mono (Ext.drew _)
    refine WL.l0 (l_storeT sz_5 rfl rfl rfl hB (by simp[Nat.blt_eq];omega)) fun _ w1 hh=>?_
    obtain⟨hB,e1,hz1⟩:=hh
    refine WL.nil ?_
    refine WC.seq<|WC.region ?_
    refine WL.q rfl (r_move rfl) ?_
    refine WL.q rfl (r_move rfl) ?_
    refine WL.q rfl (r_move rfl) ?_
    refine WL.q rfl (r_shr rfl rfl (by decide)) ?_
    refine WL.q rfl (r_as (r_bitand rfl rfl) (sgu 12 (by decide) qn)) ?_
    refine WL.q rfl (r_nilp rfl) ?_
    refine WL.q rfl (r_fieldAddr rfl fo_154_0) ?_
    refine WL.q rfl (r_idxA qarr rfl rfl rfl (Nat.mod_lt _ (by decide))) ?_
    replace hM:=hM.mono e1
    refine WL.q rfl (r_load one_5 rfl (Ext.refl _) (encAt hM (Nat.mod_lt _ (by decide)))) ?_
    refine WL.q rfl (r_idx1 sl_27 rfl rfl rfl (by first|omega|(simp;done)|(simp;omega))) ?_
    refine WL.l0 (l_storeT sz_5 rfl rfl rfl hB (by simp[Nat.blt_eq];omega)) fun _ w2 hh=>?_
    obtain⟨hB,e2,hz2⟩:=hh
    refine WL.nil ?_
    refine WC.seq<|WC.region ?_
    refine WL.q rfl (r_move rfl) ?_
    refine WL.q rfl (r_move rfl) ?_
    refine WL.q rfl (r_move rfl) ?_
    refine WL.q rfl (r_shr rfl rfl (by decide)) ?_
    refine WL.q rfl (r_as (r_bitand rfl rfl) (sgu 6 (by decide) qn)) ?_
    refine WL.q rfl (r_nilp rfl) ?_
    refine WL.q rfl (r_fieldAddr rfl fo_154_0) ?_
    refine WL.q rfl (r_idxA qarr rfl rfl rfl (Nat.mod_lt _ (by decide))) ?_
    replace hM:=hM.mono e2
    refine WL.q rfl (r_load one_5 rfl (Ext.refl _) (encAt hM (Nat.mod_lt _ (by decide)))) ?_
    refine WL.q rfl (r_idx1 sl_27 rfl rfl rfl (by first|omega|(simp;done)|(simp;omega))) ?_
    refine WL.l0 (l_storeT sz_5 rfl rfl rfl hB (by simp[Nat.blt_eq];omega)) fun _ w3 hh=>?_
    obtain⟨hB,e3,hz3⟩:=hh
    refine WL.nil ?_
    refine WC.seq<|WC.region ?_
    refine WL.q rfl (r_move rfl) ?_
    refine WL.q rfl (r_nilp rfl) ?_
    refine WL.q rfl (r_fieldAddr rfl fo_154_2) ?_
    replace hM:=hM.mono e3
    refine WL.q rfl (r_load one_21 rfl (Ext.refl _) (encPad hM hdm)) ?_
    refine WL.q rfl (r_cmp (r_neq rfl rfl) (bneT (by(decide)))) ?_
    refine WL.nil ?_
    refine WC.condT rfl ?_
    refine WC.region ?_
    refine WL.q rfl (r_move rfl) ?_
    refine WL.q rfl (r_move rfl) ?_
    refine WL.q rfl (r_nilp rfl) ?_
    refine WL.q rfl (r_fieldAddr rfl fo_154_2) ?_
    refine WL.q rfl (r_load one_21 rfl (Ext.refl _) (encPad hM hdm)) ?_
    refine WL.q rfl (r_cvInt cv_21_5 rfl) ?_
    refine WL.q rfl (r_idx1 sl_27 rfl rfl rfl (by first|omega|(simp;done)|(simp;omega))) ?_
    refine WL.l0 (l_storeT sz_5 rfl rfl rfl hB (by simp[Nat.blt_eq];omega)) fun _ w4 hh=>?_
    obtain⟨hB,e4,hz4⟩:=hh
    refine WL.nil ?_
    have qg:b64 [x,y]=[sg ((x.toNat * 65536+y.toNat * 256) / 2^18%64),sg ((x.toNat * 65536+y.toNat * 256) / 2^12%64),sg ((x.toNat * 65536+y.toNat * 256) / 2^6%64),61]:=by rw[b64];rfl
    replace he:=(((((he.then hE).then (Ext.drew _)).then e1).then e2).then e3).then e4
    exact fin0n (ρ:=argsFr 0 []) (R:=fun r w'=>r= .tuple #[]∧SB w' g (b64 t) cs∧Evo (fun k=>k≠g) w w') ⟨rfl,by rw[qt,qg];exact SB.put (by omega) hB,he⟩
  · skip
    obtain⟨b0,o0,c0,qe,qc0,qA0,hD0⟩:=hJ.open (by simp)
    cases qe
    simp only[List.length_cons]at hrl hbl qc0 hcj
    have qpd:=qp (by omega)
    subst qpd
    have d0:=hD0.get 0 (by simp)
    have d1:=hD0.get 1 (by simp)
    have d2:=hD0.get 2 (by simp)
    simp only[List.getElem_cons_zero,List.getElem_cons_succ]at d0 d1 d2
    have qn:x.toNat * 65536+y.toNat * 256+z.toNat<16777216:=by have:=UInt8.toNat_lt x;have:=UInt8.toNat_lt y;have:=UInt8.toNat_lt z;omega
    refine WC.seq<|WC.seq<|WC.region ?_
    refine WL.q rfl (r_move rfl) ?_
    refine WL.q rfl (r_len sl_27 rfl) ?_
    refine WL.q rfl (r_cmp (r_geq rfl rfl) (decide_eq_true (by(simp only[List.length_cons];omega)))) ?_
    refine WL.nil ?_
    refine WC.condT rfl ?_
    refine WC.skip ?_
    refine WC.block ?_
    replace hM:=hM.mono hE
    replace hI:=hI.mono hE
    refine WC.seq<|WC.regionD [(true,0),(true,1),(true,2),(true,3),(true,4),(true,5),(true,6),(true,7),(true,8),(true,9),(true,10),(true,11),(true,12),(true,13),(true,14),(true,15),(true,16)] (Ext _) mixed (by kernel_rfl) (Ext.drew _) ?_
    refine WD.q rfl (fun _ hS=>r_move rfl) ?_
    refine WD.q rfl (fun _ hS=>r_idx1 sl_27 rfl rfl rfl (by first|omega|(simp;done)|(simp;omega))) ?_
    refine WD.q rfl (fun _ hS=>r_load one_5 rfl hS d0) ?_
    refine WD.q rfl (fun _ hS=>r_cvInt cv_5_69 rfl) ?_
    refine WD.q rfl (fun _ hS=>r_shl rfl rfl (by decide)) ?_
    refine WD.q rfl (fun _ hS=>r_move rfl) ?_
    refine WD.q rfl (fun _ hS=>r_idx1 sl_27 rfl rfl rfl (by first|omega|(simp;done)|(simp;omega))) ?_
    refine WD.q rfl (fun _ hS=>r_load one_5 rfl hS d1) ?_
    refine WD.q rfl (fun _ hS=>r_cvInt cv_5_69 rfl) ?_
    refine WD.q rfl (fun _ hS=>r_shl rfl rfl (by decide)) ?_
    refine WD.q rfl (fun _ hS=>r_bitor rfl rfl) ?_
    refine WD.q rfl (fun _ hS=>r_move rfl) ?_
    refine WD.q rfl (fun _ hS=>r_idx1 sl_27 rfl rfl rfl (by first|omega|(simp;done)|(simp;omega))) ?_
    refine WD.q rfl (fun _ hS=>r_load one_5 rfl hS d2) ?_
    refine WD.q rfl (fun _ hS=>r_cvInt cv_5_69 rfl) ?_
    refine WD.q rfl (fun _ hS=>r_as (r_bitor rfl rfl) (val3 x y z)) ?_
    refine WD.q rfl (fun _ hS=>r_assign rfl) ?_
    refine WD.nil ?_
    refine WC.seq<|WC.region ?_
    refine WL.q rfl (r_move rfl) ?_
    refine WL.q rfl (r_idx1 sl_27 rfl rfl rfl (by first|omega|(simp;done)|(simp;omega))) ?_
    replace hB:=hB.mono (Ext.drew _)
    refine WL.q rfl (r_load one_5 rfl (Ext.refl _) (hB.blk.get (j:=s.length+3) (by rw[List.getElem?_append_right (by simp),List.getElem?_drop];exact List.getElem?_eq_getElem (by simp;omega)))) ?_
    refine WL.nil ?_
    refine WC.seq<|WC.region ?_
    refine WL.q rfl (r_move rfl) ?_
    refine WL.q rfl (r_move rfl) ?_
    refine WL.q rfl (r_move rfl) ?_
    refine WL.q rfl (r_shr rfl rfl (by decide)) ?_
    refine WL.q rfl (r_as (r_bitand rfl rfl) (sgu 18 (by decide) qn)) ?_
    refine WL.q rfl (r_nilp rfl) ?_
    refine WL.q rfl (r_fieldAddr rfl fo_154_0) ?_
    refine WL.q rfl (r_idxA qarr rfl rfl rfl (Nat.mod_lt _ (by decide))) ?_
    replace hM:=hM.mono (Ext.drew _)
    refine WL.q rfl (r_load one_5 rfl (Ext.refl _) (encAt hM (Nat.mod_lt _ (by decide)))) ?_
    refine WL.q rfl (r_idx1 sl_27 rfl rfl rfl (by first|omega|(simp;done)|(simp;omega))) ?_
    refine WL.l0 (l_storeT sz_5 rfl rfl rfl hB (by simp[Nat.blt_eq];omega)) fun _ w1 hh=>?_
    obtain⟨hB,e1,hz1⟩:=hh
    refine WL.nil ?_
    refine WC.seq<|WC.region ?_
    refine WL.q rfl (r_move rfl) ?_
    refine WL.q rfl (r_move rfl) ?_
    refine WL.q rfl (r_move rfl) ?_
    refine WL.q rfl (r_shr rfl rfl (by decide)) ?_
    refine WL.q rfl (r_as (r_bitand rfl rfl) (sgu 12 (by decide) qn)) ?_
    refine WL.q rfl (r_nilp rfl) ?_
    refine WL.q rfl (r_fieldAddr rfl fo_154_0) ?_
    refine WL.q rfl (r_idxA qarr rfl rfl rfl (Nat.mod_lt _ (by decide))) ?_
    replace hM:=hM.mono e1
    refine WL.q rfl (r_load one_5 rfl (Ext.refl _) (encAt hM (Nat.mod_lt _ (by decide)))) ?_
    refine WL.q rfl (r_idx1 sl_27 rfl rfl rfl (by first|omega|(simp;done)|(simp;omega))) ?_
    refine WL.l0 (l_storeT sz_5 rfl rfl rfl hB (by simp[Nat.blt_eq];omega)) fun _ w2 hh=>?_
    obtain⟨hB,e2,hz2⟩:=hh
    refine WL.nil ?_
    refine WC.seq<|WC.region ?_
    refine WL.q rfl (r_move rfl) ?_
    refine WL.q rfl (r_move rfl) ?_
    refine WL.q rfl (r_move rfl) ?_
    refine WL.q rfl (r_shr rfl rfl (by decide)) ?_
    refine WL.q rfl (r_as (r_bitand rfl rfl) (sgu 6 (by decide) qn)) ?_
    refine WL.q rfl (r_nilp rfl) ?_
    refine WL.q rfl (r_fieldAddr rfl fo_154_0) ?_
    refine WL.q rfl (r_idxA qarr rfl rfl rfl (Nat.mod_lt _ (by decide))) ?_
    replace hM:=hM.mono e2
    refine WL.q rfl (r_load one_5 rfl (Ext.refl _) (encAt hM (Nat.mod_lt _ (by decide)))) ?_
    refine WL.q rfl (r_idx1 sl_27 rfl rfl rfl (by first|omega|(simp;done)|(simp;omega))) ?_
    refine WL.l0 (l_storeT sz_5 rfl rfl rfl hB (by simp[Nat.blt_eq];omega)) fun _ w3 hh=>?_
    obtain⟨hB,e3,hz3⟩:=hh
    refine WL.nil ?_
    refine WC.seq<|WC.region ?_
    refine WL.q rfl (r_move rfl) ?_
    refine WL.q rfl (r_move rfl) ?_
    refine WL.q rfl (r_move rfl) ?_
    refine WL.q rfl (r_as (r_bitand rfl rfl) (sgu0 qn)) ?_
    refine WL.q rfl (r_nilp rfl) ?_
    refine WL.q rfl (r_fieldAddr rfl fo_154_0) ?_
    refine WL.q rfl (r_idxA qarr rfl rfl rfl (Nat.mod_lt _ (by decide))) ?_
    replace hM:=hM.mono e3
    refine WL.q rfl (r_load one_5 rfl (Ext.refl _) (encAt hM (Nat.mod_lt _ (by decide)))) ?_
    refine WL.q rfl (r_idx1 sl_27 rfl rfl rfl (by first|omega|(simp;done)|(simp;omega))) ?_
    refine WL.l0 (l_storeT sz_5 rfl rfl rfl hB (by simp[Nat.blt_eq];omega)) fun _ w4 hh=>?_
    obtain⟨hB,e4,hz4⟩:=hh
    refine WL.nil ?_
    refine WC.seq<|WC.region ?_
    refine WL.q rfl (r_move rfl) ?_
    refine WL.q rfl (r_slicel sl_27 rfl rfl rfl (by first|omega|(simp;done)|(simp;omega))) ?_
    refine WL.q rfl (r_assign rfl) ?_
    refine WL.nil ?_
    refine WC.region ?_
    refine WL.q rfl (r_move rfl) ?_
    refine WL.q rfl (r_slicel sl_27 rfl rfl rfl (by first|omega|(simp;done)|(simp;omega))) ?_
    refine WL.q rfl (r_assign rfl) ?_
    refine WL.nil ?_
    have qg:b64 (x::y::z::r')=[sg ((x.toNat * 65536+y.toNat * 256+z.toNat) / 2^18%64),sg ((x.toNat * 65536+y.toNat * 256+z.toNat) / 2^12%64),sg ((x.toNat * 65536+y.toNat * 256+z.toNat) / 2^6%64),sg ((x.toNat * 65536+y.toNat * 256+z.toNat)%64)]++b64 r':=by rw[b64];rfl
    have qdr:t.drop (3 * (i+1))=r':=by rw[show 3 * (i+1)=3 * i+3 by omega,← List.drop_drop,hr];rfl
    replace hJ:=((((hJ.mono (Ext.drew _)).mono e1).mono e2).mono e3).mono e4
    exact⟨(i+1,_,_),(.cons rfl .nil),(.cons rfl (.cons rfl .nil)),⟨⟨_,SB.put (by omega) hB,by dsimp only;rw[List.length_append];exact DV.next hnc (by omega),by dsimp only;rw[List.length_append];simp;omega,by dsimp only;rw[qt,qg,qdr,List.append_assoc]⟩,by dsimp only;rw[qdr];exact IsB.dropS (k:=3) hJ (by simp),by dsimp only;omega,((((((hE.then (Ext.drew _)).then e1).then e2).then e3).then e4))⟩,(by dsimp only;omega)⟩
end Go.Proofs.LL
