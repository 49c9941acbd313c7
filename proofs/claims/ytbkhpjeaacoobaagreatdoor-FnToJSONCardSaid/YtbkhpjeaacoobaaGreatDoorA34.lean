/- Contracts of functions and own laws. Conditions: those that each theorem states. -/
import Derived.Test.YtbkhpjeaacoobaaGreatDoorA33
set_option linter.all false
set_option maxRecDepth 20000
namespace Go.Proofs.LL
open Go Go.Proofs Go.RowKit
theorem agg_73:aggT Tryz.prog 73=some 2:=by kernel_rfl
theorem body_54:bodyB Tryz.prog 54=true:=by kernel_rfl
theorem fo_73_0:fOff Tryz.prog 73 0=some 0:=by kernel_rfl
theorem fo_73_1:fOff Tryz.prog 73 1=some 1:=by kernel_rfl
theorem sz_73:szT Tryz.prog 73=some 2:=by kernel_rfl
theorem zt_73:zeroT Tryz.prog 73=some (.agg #[.int .u8 0,.int .u8 0]):=by kernel_rfl
theorem lead_ok{l:List UInt8}(hv:Lib.validD l=true)(hne:l≠[])(h0:128≤(l.getD 0 0).toNat):
    ∃k,(k=2∨k=3∨k=4)∧Lib.firstT (l.getD 0 0).toNat%8=k∧k≤l.length∧Lib.accLo (Lib.firstT (l.getD 0 0).toNat / 16)≤(l.getD 1 0).toNat∧(l.getD 1 0).toNat≤Lib.accHi (Lib.firstT (l.getD 0 0).toNat / 16)∧
      (3≤k→128≤(l.getD 2 0).toNat∧(l.getD 2 0).toNat≤191)∧(4≤k→128≤(l.getD 3 0).toNat∧(l.getD 3 0).toNat≤191)∧Lib.validD (l.drop k)=true:=by
  rw[Lib.validD_lead l hne h0]at hv
  generalize Lib.firstT (l.getD 0 0).toNat=z at hv⊢
  generalize Lib.accLo (z / 16)=lo at hv⊢
  generalize Lib.accHi (z / 16)=hi at hv⊢
  generalize (l.getD 1 0).toNat=b1 at hv⊢
  generalize (l.getD 2 0).toNat=b2 at hv⊢
  generalize (l.getD 3 0).toNat=b3 at hv⊢
  cases hc:Lib.checkN l.length b1 b2 b3 (z%8) lo hi with
  |none=>rw[hc]at hv;cases hv
  |some k=>
    rw[hc]at hv
    dsimp only at hv
    unfold Lib.checkN at hc
    repeat' split at hc
    all_goals first|cases hc|skip
    · exact⟨2,by omega,by omega,by omega,by omega,by omega,by omega,by omega,hv⟩
    · exact⟨3,by omega,by omega,by omega,by omega,by omega,by omega,by omega,hv⟩
    · exact⟨4,by omega,by omega,by omega,by omega,by omega,by omega,by omega,hv⟩
theorem utF{w:World}(h:UT w){b:Nat}(hb:b<256):w.cell? ⟨0,0+b * 1,none⟩=some (.int .u8 (Lib.firstT b:Int)):=by
  rw[Nat.zero_add,Nat.mul_one];exact h.1 b hb
theorem utA{w:World}(h:UT w){i:Nat}(hi:i<16):At w 1 (0+i * 2) [.int .u8 (Lib.accLo i:Int),.int .u8 (Lib.accHi i:Int)]:=by
  obtain⟨h1,h2⟩:=h.2 i hi
  intro j hj
  match j,hj with
  |0,_=>rw[show 0+i * 2+0=2 * i by omega];exact h1
  |1,_=>rw[show 0+i * 2+1=2 * i+1 by omega];exact h2
  |j+2,h=>exact absurd h (by simp)
theorem fst_lt(b:Nat):Lib.firstT b<256:=by
  rcases Lib.firstT_cases b with h|h|h|h|h|h|h|h|h<;>omega
theorem and7n{z:Nat}(h:z<256):bits .and .u8 (z:Int) 7=((z%8:Nat):Int):=by
  have:=and_u8 3 (by decide) (z:=(z:Int)) (by omega) (by omega)
  rw[show(7:Int)=2^3-1 by decide,this]
  omega
theorem shr4n(z:Nat):(z:Int).fdiv (2^(min (4:Int).toNat IntKind.u8.bits))=((z / 16:Nat):Int):=by
  rw[show(2:Int)^(min (4:Int).toNat IntKind.u8.bits)=16 by decide,Int.fdiv_eq_ediv_of_nonneg _ (by decide)]
  omega
theorem cellD{w:World}{b o i:Nat}{l:List UInt8}(h:BytesAt w b o l)(hi:i<l.length):w.cell? ⟨b,o+i,none⟩=some (.int .u8 ((l.getD i 0).toNat:Int)):=by
  rw[h i hi,List.getD_eq_getElem?_getD,List.getElem?_eq_getElem hi];rfl
theorem or_z4{a b c d:Nat}(ha:a<18446744073709551616)(hb:b<18446744073709551616)(hc:c<18446744073709551616)(hd:d<18446744073709551616)(h:(bits .and .u64 (bits .or .u64 (bits .or .u64 (a:Int) (b:Int)) (bits .or .u64 (c:Int) (d:Int))) 9259542123273814144==0)=true):
    a&&&9259542123273814144=0∧b&&&9259542123273814144=0∧c&&&9259542123273814144=0∧d&&&9259542123273814144=0:=by
  rw[u64_or_nat a b ha hb,u64_or_nat c d hc hd]at h
  obtain⟨h1,h2⟩:=or_zz (Nat.or_lt_two_pow (n:=64) ha hb) (Nat.or_lt_two_pow (n:=64) hc hd) h
  obtain⟨h3,h4⟩:=(Lib.or_mask _ _ _).1 h1
  obtain⟨h5,h6⟩:=(Lib.or_mask _ _ _).1 h2
  exact⟨h3,h4,h5,h6⟩
theorem Valid_ok{A:Nat→Prop}{w:World}{v:Value}{l:List UInt8}(hI:IsB A w v l)(hU:UT w)(hv:Lib.validD l=true)(hl:l.length≤1000000000000):
    Does Tryz.prog 37 [v] w fun r w'=>r= .bool true∧Ext w w':=by
  obtain⟨pv,cv,rfl,qcv,_⟩:=id hI
  have h16:arrT Tryz.prog 74=some (16,2):=by kernel_rfl
  have h256:arrT Tryz.prog 71=some (256,1):=by kernel_rfl
  have hIc:=hI.cap3
  refine does1 Tryz.func37 rfl rfl rfl ?_
  have he:Evo (fun _=>True) w w:=Evo.refl w
  refine WC.seq<|WC.region ?_
  refine WL.q rfl (r_assign rfl) ?_
  refine WL.nil ?_
  refine WC.seq<|WC.region ?_
  refine WL.q rfl (r_move rfl) ?_
  refine WL.q rfl (r_move rfl) ?_
  refine WL.q rfl (r_len sl_27 rfl) ?_
  refine WL.q rfl (r_move rfl) ?_
  refine WL.q rfl (r_len sl_27 rfl) ?_
  refine WL.q rfl (r_slice3 sl_27 rfl rfl rfl rfl rfl (Nat.le_refl _) qcv) ?_
  refine WL.q rfl (r_assign rfl) ?_
  refine WL.nil ?_
  refine WC.seq<|WC.block ?_
  refine WC.loop2 (ι:=(Nat×Value)) [(2,_)] (fun a=>[(0,a.2)]) (fun a wi=>(∃l,IsB A wi a.2 l∧l.length=a.1∧Lib.validD l=true)∧a.1≤1000000000000∧Ext w wi) (fun a=>a.1) (l.length,_) (.cons rfl .nil) (.cons rfl .nil) (⟨⟨l,hIc,rfl,hv⟩,hl,Ext.refl _⟩) ?_
  intro a wi1 hh;obtain⟨hQ,q1,hE⟩:=hh
  obtain⟨n,mv⟩:=a
  dsimp only at hQ q1⊢
  obtain⟨l,hI,rfl,hv⟩:=hQ
  have hT:=Since.mk hE
  rcases Nat.eq_zero_or_pos l.length with q0|q0
  · obtain⟨p2,c2,rfl,_,_⟩:=id hI
    refine WC.seq<|WC.seq<|WC.region ?_
    refine WL.q rfl (r_move rfl) ?_
    refine WL.q rfl (r_len sl_27 rfl) ?_
    refine WL.q rfl (r_cmp (r_gtr rfl rfl) (decide_eq_false (by(omega)))) ?_
    refine WL.nil ?_
    refine WC.condF rfl ?_
    refine WC.exit ?_
    refine WC.seq<|WC.region ?_
    refine WL.q rfl (r_assign rfl) ?_
    refine WL.nil ?_
    refine WC.ret ?_
    replace he:=he.then hE
    exact fin1 rfl ⟨rfl,he⟩
  · obtain⟨b0,o0,c0,rfl,qc0,qA0,hD0⟩:=hI.open q0
    have qne:l≠[]:=fun e=>by rw[e]at q0;simp at q0
    have d0:=cellD hD0 q0
    have qlt:=UInt8.toNat_lt (l.getD 0 0)
    rcases Nat.lt_or_ge (l.getD 0 0).toNat 128 with qa|qa
    · have hv1:Lib.validD (l.drop 1)=true:=by
        match l,qa,hv with
        |b::r,qa,hv=>rw[Lib.validD_cons b r qa]at hv;exact hv
        |[],_,_=>rfl
      have hI1:=IsB.dropS (k:=1) hI q0
      have ql1:(l.drop 1).length=l.length-1:=List.length_drop
      rcases Nat.lt_or_ge 8 (l.length-1)with q8|q8
      · obtain⟨x0,x1,x2,x3,x4,x5,x6,x7,qx⟩:=ex8 (l:=l.drop 1) (by omega)
        refine WC.seq<|WC.seq<|WC.region ?_
        refine WL.q rfl (r_move rfl) ?_
        refine WL.q rfl (r_len sl_27 rfl) ?_
        refine WL.q rfl (r_cmp (r_gtr rfl rfl) (decide_eq_true (by(omega)))) ?_
        refine WL.nil ?_
        refine WC.condT rfl ?_
        refine WC.skip ?_
        refine WC.block ?_
        refine WC.seq<|WC.region ?_
        refine WL.q rfl (r_move rfl) ?_
        refine WL.q rfl (r_idx1 sl_27 rfl rfl rfl (by first|omega|(simp;done)|(simp;omega))) ?_
        refine WL.q rfl (r_load one_5 rfl (Ext.refl _) d0) ?_
        refine WL.q rfl (r_assign rfl) ?_
        refine WL.nil ?_
        refine WC.seq<|WC.seq<|WC.region ?_
        refine WL.q rfl (r_move rfl) ?_
        refine WL.q rfl (r_cmp (r_lss rfl rfl) (decide_eq_true (by(omega)))) ?_
        refine WL.nil ?_
        refine WC.condT rfl ?_
        refine WC.seq<|WC.region ?_
        refine WL.q rfl (r_move rfl) ?_
        refine WL.q rfl (r_slicel (l:=1) sl_27 rfl rfl rfl (by omega)) ?_
        refine WL.q rfl (r_assign rfl) ?_
        refine WL.nil ?_
        refine WC.seq<|WC.seq<|WC.region ?_
        refine WL.q rfl (r_move rfl) ?_
        refine WL.q rfl (r_len sl_27 rfl) ?_
        refine WL.q rfl (r_cmp (r_gtr rfl rfl) (decide_eq_true (by(omega)))) ?_
        refine WL.q rfl (r_move rfl) ?_
        refine WL.qg rfl rfl rfl rfl (r_move rfl) ?_
        refine WL.lg rfl rfl rfl rfl (l_do body_54 rfl (word_ok (A:=A) (r:=(l.drop 1).drop 8) (by rw[← qx];exact hI1))) fun v1 w1 hh=>?_
        obtain⟨rfl,e1⟩:=hh
        refine WL.qg rfl rfl rfl rfl (r_bitand rfl rfl) ?_
        refine WL.qg rfl rfl rfl rfl (r_eql rfl rfl) ?_
        refine WL.q rfl (r_pick rfl rfl rfl) ?_
        refine WL.nil ?_
        refine WC.cond rfl ?_ ?_
        · intro hc
          have qz:=and_z (leN8_lt _ _ _ _ _ _ _ _) hc
          have hv8:=skip8 qx qz hv1
          replace hI1:=hI1.mono e1
          have hI8:=IsB.dropS (k:=8) hI1 (by omega)
          have ql8:((l.drop 1).drop 8).length=l.length-1-8:=by rw[List.length_drop,ql1]
          rcases Nat.lt_or_ge 16 (l.length-1-8)with q16|q16
          · obtain⟨y0,y1,y2,y3,y4,y5,y6,y7,qy⟩:=ex8 (l:=(l.drop 1).drop 8) (by omega)
            obtain⟨z0,z1,z2,z3,z4,z5,z6,z7,qz⟩:=ex8 (l:=((l.drop 1).drop 8).drop 8) (by rw[List.length_drop];omega)
            refine WC.seq<|WC.region ?_
            refine WL.q rfl (r_move rfl) ?_
            refine WL.q rfl (r_slicel (l:=8) sl_27 rfl rfl rfl (by omega)) ?_
            refine WL.q rfl (r_assign rfl) ?_
            refine WL.nil ?_
            replace hU:=(hU.mono hE).mono e1
            replace hI:=hI.mono e1
            replace hT:=hT.mono e1
            refine WC.seq<|WC.regionD [(true,0),(true,1),(true,2),(true,3),(true,4),(true,6),(true,7),(false,5),(false,8),(true,9),(true,10),(true,11),(true,12)] (Ext _) mixed (by kernel_rfl) (Ext.drew _) ?_
            refine WD.q rfl (fun _ hS=>r_move rfl) ?_
            refine WD.q rfl (fun _ hS=>r_len sl_27 rfl) ?_
            refine WD.q rfl (fun _ hS=>r_cmp (r_gtr rfl rfl) (decide_eq_true (by(omega)))) ?_
            refine WD.q rfl (fun _ hS=>r_move rfl) ?_
            refine WD.qg rfl rfl rfl rfl (fun _ hS=>r_move rfl) ?_
            refine WD.qg rfl rfl rfl rfl (fun _ hS=>r_move rfl) ?_
            refine WD.qg rfl rfl rfl rfl (fun _ hS=>r_slicel (l:=8) sl_27 rfl rfl rfl (by omega)) ?_
            refine WD.lg rfl rfl rfl rfl rfl (l_do body_54 rfl (word_ok (A:=A) (r:=((l.drop 1).drop 8).drop 8) (by rw[← qy];exact(hI8.mono (Ext.drew _))))) fun v2 w2 hh=>?_
            obtain⟨rfl,e2⟩:=hh
            refine⟨((Evo.drew _).then e2),?_⟩
            refine WD.lg rfl rfl rfl rfl rfl (l_do body_54 rfl (word_ok (A:=A) (r:=(((l.drop 1).drop 8).drop 8).drop 8) (by rw[← qz];exact IsB.dropS (k:=8) ((hI8.mono (Ext.drew _)).mono e2) (by omega)))) fun v3 w3 hh=>?_
            obtain⟨rfl,e3⟩:=hh
            refine⟨(((Evo.drew _).then e2).then e3),?_⟩
            refine WD.qg rfl rfl rfl rfl (fun _ hS=>r_bitor rfl rfl) ?_
            refine WD.qg rfl rfl rfl rfl (fun _ hS=>r_bitand rfl rfl) ?_
            refine WD.qg rfl rfl rfl rfl (fun _ hS=>r_eql rfl rfl) ?_
            refine WD.q rfl (fun _ hS=>r_pick rfl rfl rfl) ?_
            refine WD.nil ?_
            refine WC.cond rfl ?_ ?_
            · intro hc2
              obtain⟨qz1,qz2⟩:=or_zz (leN8_lt _ _ _ _ _ _ _ _) (leN8_lt _ _ _ _ _ _ _ _) hc2
              have hv16:=skip8 qz qz2 (skip8 qy qz1 hv8)
              rw[List.drop_drop]at hv16
              replace hI8:=((hI8.mono (Ext.drew _)).mono e2).mono e3
              have hI16:=IsB.dropS (k:=16) hI8 (by omega)
              have ql16:(((l.drop 1).drop 8).drop 16).length=l.length-1-8-16:=by rw[List.length_drop,ql8]
              refine WC.seq<|WC.region ?_
              refine WL.q rfl (r_move rfl) ?_
              refine WL.q rfl (r_slicel (l:=16) sl_27 rfl rfl rfl (by omega)) ?_
              refine WL.q rfl (r_assign rfl) ?_
              refine WL.nil ?_
              refine WC.block ?_
              replace hU:=((hU.mono (Ext.drew _)).mono e2).mono e3
              replace hI:=((hI.mono (Ext.drew _)).mono e2).mono e3
              replace hT:=((hT.mono (Ext.drew _)).mono e2).mono e3
              replace hI1:=((hI1.mono (Ext.drew _)).mono e2).mono e3
              replace he:=((((he.then hE).then e1).then (Ext.drew _)).then e2).then e3
              refine WC.loop2 (ι:=(Nat×Value)) [(2,_),(3,_)] (fun m=>[(0,m.2)]) (fun m wi=>(∃l3,IsB A wi m.2 l3∧l3.length=m.1∧Lib.validD l3=true)∧m.1≤l.length-1-8-16∧Ext w3 wi) (fun m=>m.1) (l.length-1-8-16,_) (.cons rfl (.cons rfl .nil)) (.cons rfl .nil) (⟨⟨_,hI16,ql16,hv16⟩,Nat.le_refl _,Ext.refl _⟩) ?_
              intro m wi2 hh;obtain⟨hQ2,q2,hE⟩:=hh
              obtain⟨n3,mv3⟩:=m
              dsimp only at hQ2 q2⊢
              obtain⟨l3,hI3,rfl,hv3⟩:=hQ2
              have hT3:=Since.mk hE
              obtain⟨p3,c3,rfl,_,_⟩:=id hI3
              rcases Nat.lt_or_ge 32 l3.length with q32|q32
              · obtain⟨s0,s1,s2,s3,s4,s5,s6,s7,qs1⟩:=ex8 (l:=l3) (by omega)
                obtain⟨t0,t1,t2,t3,t4,t5,t6,t7,qs2⟩:=ex8 (l:=l3.drop 8) (by rw[List.length_drop];omega)
                obtain⟨u0,u1,u2,u3,u4,u5,u6,u7,qs3⟩:=ex8 (l:=l3.drop 16) (by rw[List.length_drop];omega)
                obtain⟨v0,v1,v2,v3,v4,v5,v6,v7,qs4⟩:=ex8 (l:=l3.drop 24) (by rw[List.length_drop];omega)
                replace hU:=hU.mono hE
                replace hI:=hI.mono hE
                replace hT:=hT.mono hE
                replace hI1:=hI1.mono hE
                replace hI8:=hI8.mono hE
                replace hI16:=hI16.mono hE
                refine WC.seq<|WC.seq<|WC.regionD [(true,0),(true,1),(true,2),(true,3),(true,4),(true,6),(true,7),(true,10),(true,11),(true,13),(true,14),(false,5),(false,8),(true,9),(false,12),(false,15),(true,16),(true,17),(true,18),(true,19),(true,20)] (Ext _) mixed (by kernel_rfl) (Ext.drew _) ?_
                refine WD.q rfl (fun _ hS=>r_move rfl) ?_
                refine WD.q rfl (fun _ hS=>r_len sl_27 rfl) ?_
                refine WD.q rfl (fun _ hS=>r_cmp (r_gtr rfl rfl) (decide_eq_true (by(omega)))) ?_
                refine WD.q rfl (fun _ hS=>r_move rfl) ?_
                refine WD.qg rfl rfl rfl rfl (fun _ hS=>r_move rfl) ?_
                refine WD.qg rfl rfl rfl rfl (fun _ hS=>r_move rfl) ?_
                refine WD.qg rfl rfl rfl rfl (fun _ hS=>r_slicel (l:=8) sl_27 rfl rfl rfl (by omega)) ?_
                refine WD.qg rfl rfl rfl rfl (fun _ hS=>r_move rfl) ?_
                refine WD.qg rfl rfl rfl rfl (fun _ hS=>r_slicel (l:=16) sl_27 rfl rfl rfl (by omega)) ?_
                refine WD.qg rfl rfl rfl rfl (fun _ hS=>r_move rfl) ?_
                refine WD.qg rfl rfl rfl rfl (fun _ hS=>r_slicel (l:=24) sl_27 rfl rfl rfl (by omega)) ?_
                refine WD.lg rfl rfl rfl rfl rfl (l_do body_54 rfl (word_ok (A:=A) (r:=l3.drop 8) (by rw[← qs1];exact(hI3.mono (Ext.drew _))))) fun v4 w4 hh=>?_
                obtain⟨rfl,e4⟩:=hh
                refine⟨((Evo.drew _).then e4),?_⟩
                refine WD.lg rfl rfl rfl rfl rfl (l_do body_54 rfl (word_ok (A:=A) (r:=(l3.drop 8).drop 8) (by rw[← qs2];exact IsB.dropS (k:=8) ((hI3.mono (Ext.drew _)).mono e4) (by omega)))) fun v5 w5 hh=>?_
                obtain⟨rfl,e5⟩:=hh
                refine⟨(((Evo.drew _).then e4).then e5),?_⟩
                refine WD.qg rfl rfl rfl rfl (fun _ hS=>r_bitor rfl rfl) ?_
                refine WD.lg rfl rfl rfl rfl rfl (l_do body_54 rfl (word_ok (A:=A) (r:=(l3.drop 16).drop 8) (by rw[← qs3];exact IsB.dropS (k:=16) (((hI3.mono (Ext.drew _)).mono e4).mono e5) (by omega)))) fun v6 w6 hh=>?_
                obtain⟨rfl,e6⟩:=hh
                refine⟨((((Evo.drew _).then e4).then e5).then e6),?_⟩
                refine WD.lg rfl rfl rfl rfl rfl (l_do body_54 rfl (word_ok (A:=A) (r:=(l3.drop 24).drop 8) (by rw[← qs4];exact IsB.dropS (k:=24) ((((hI3.mono (Ext.drew _)).mono e4).mono e5).mono e6) (by omega)))) fun v7 w7 hh=>?_
                obtain⟨rfl,e7⟩:=hh
                refine⟨(((((Evo.drew _).then e4).then e5).then e6).then e7),?_⟩
                refine WD.qg rfl rfl rfl rfl (fun _ hS=>r_bitor rfl rfl) ?_
                refine WD.qg rfl rfl rfl rfl (fun _ hS=>r_bitor rfl rfl) ?_
                refine WD.qg rfl rfl rfl rfl (fun _ hS=>r_bitand rfl rfl) ?_
                refine WD.qg rfl rfl rfl rfl (fun _ hS=>r_eql rfl rfl) ?_
                refine WD.q rfl (fun _ hS=>r_pick rfl rfl rfl) ?_
                refine WD.nil ?_
                refine WC.cond rfl ?_ ?_
                · intro hc3
                  obtain⟨r1,r2,r3,r4⟩:=or_z4 (leN8_lt _ _ _ _ _ _ _ _) (leN8_lt _ _ _ _ _ _ _ _) (leN8_lt _ _ _ _ _ _ _ _) (leN8_lt _ _ _ _ _ _ _ _) hc3
                  have k1:=skip8 qs1 r1 hv3
                  have k2:=skip8 qs2 r2 k1
                  rw[List.drop_drop]at k2
                  have k3:=skip8 qs3 r3 k2
                  rw[List.drop_drop]at k3
                  have k4:=skip8 qs4 r4 k3
                  rw[List.drop_drop]at k4
                  replace hI3:=((((hI3.mono (Ext.drew _)).mono e4).mono e5).mono e6).mono e7
                  have hI32:=IsB.dropS (k:=32) hI3 (by omega)
                  refine WC.skip ?_
                  refine WC.block ?_
                  refine WC.region ?_
                  refine WL.q rfl (r_move rfl) ?_
                  refine WL.q rfl (r_slicel (l:=32) sl_27 rfl rfl rfl (by omega)) ?_
                  refine WL.q rfl (r_assign rfl) ?_
                  refine WL.nil ?_
                  replace hT3:=((((hT3.mono (Ext.drew _)).mono e4).mono e5).mono e6).mono e7
                  exact⟨(l3.length-32,_),(.cons rfl (.cons rfl .nil)),(.cons rfl .nil),⟨⟨_,hI32,List.length_drop,k4⟩,by dsimp only;omega,hT3.evo⟩,(by dsimp only;omega)⟩
                · intro hc3
                  refine WC.exit ?_
                  refine WC.exit ?_
                  replace hT:=((((hT.mono (Ext.drew _)).mono e4).mono e5).mono e6).mono e7
                  replace hI3:=((((hI3.mono (Ext.drew _)).mono e4).mono e5).mono e6).mono e7
                  exact⟨(l3.length,_),(.cons rfl .nil),(.cons rfl .nil),⟨⟨_,hI3,rfl,hv3⟩,by dsimp only;omega,hT.evo⟩,(by dsimp only;omega)⟩
              · skip
                replace hU:=hU.mono hE
                replace hI:=hI.mono hE
                replace hT:=hT.mono hE
                replace hI1:=hI1.mono hE
                replace hI8:=hI8.mono hE
                replace hI16:=hI16.mono hE
                refine WC.seq<|WC.seq<|WC.regionD [(true,0),(true,1),(true,2),(true,3),(true,4),(true,6),(true,7),(true,10),(true,11),(true,13),(true,14),(false,5),(false,8),(true,9),(false,12),(false,15),(true,16),(true,17),(true,18),(true,19),(true,20)] (Ext _) mixed (by kernel_rfl) (Ext.drew _) ?_
                refine WD.q rfl (fun _ hS=>r_move rfl) ?_
                refine WD.q rfl (fun _ hS=>r_len sl_27 rfl) ?_
                refine WD.q rfl (fun _ hS=>r_cmp (r_gtr rfl rfl) (decide_eq_false (by(omega)))) ?_
                refine WD.q rfl (fun _ hS=>r_move rfl) ?_
                refine WD.sk rfl rfl rfl rfl rfl ?_
                refine WD.sk rfl rfl rfl rfl rfl ?_
                refine WD.sk rfl rfl rfl rfl rfl ?_
                refine WD.sk rfl rfl rfl rfl rfl ?_
                refine WD.sk rfl rfl rfl rfl rfl ?_
                refine WD.sk rfl rfl rfl rfl rfl ?_
                refine WD.sk rfl rfl rfl rfl rfl ?_
                refine WD.lsk rfl ((Evo.drew _)) rfl rfl rfl rfl rfl ?_
                refine WD.lsk rfl ((Evo.drew _)) rfl rfl rfl rfl rfl ?_
                refine WD.sk rfl rfl rfl rfl rfl ?_
                refine WD.lsk rfl ((Evo.drew _)) rfl rfl rfl rfl rfl ?_
                refine WD.lsk rfl ((Evo.drew _)) rfl rfl rfl rfl rfl ?_
                refine WD.sk rfl rfl rfl rfl rfl ?_
                refine WD.sk rfl rfl rfl rfl rfl ?_
                refine WD.sk rfl rfl rfl rfl rfl ?_
                refine WD.sk rfl rfl rfl rfl rfl ?_
                refine WD.q rfl (fun _ hS=>r_pick rfl rfl rfl) ?_
                refine WD.nil ?_
                refine WC.condF rfl ?_
                refine WC.exit ?_
                refine WC.exit ?_
                replace hT:=hT.mono (Ext.drew _)
                replace hI3:=hI3.mono (Ext.drew _)
                exact⟨(l3.length,_),(.cons rfl .nil),(.cons rfl .nil),⟨⟨_,hI3,rfl,hv3⟩,by dsimp only;omega,hT.evo⟩,(by dsimp only;omega)⟩
            · intro hc2
              refine WC.skip ?_
              refine WC.exit ?_
              replace hT:=((hT.mono (Ext.drew _)).mono e2).mono e3
              replace hI8:=((hI8.mono (Ext.drew _)).mono e2).mono e3
              exact⟨(l.length-1-8,_),(.cons rfl .nil),(.cons rfl .nil),⟨⟨_,hI8,ql8,hv8⟩,by dsimp only;omega,hT.evo⟩,(by dsimp only;omega)⟩
          · skip
            refine WC.seq<|WC.region ?_
            refine WL.q rfl (r_move rfl) ?_
            refine WL.q rfl (r_slicel (l:=8) sl_27 rfl rfl rfl (by omega)) ?_
            refine WL.q rfl (r_assign rfl) ?_
            refine WL.nil ?_
            replace hU:=(hU.mono hE).mono e1
            replace hI:=hI.mono e1
            replace hT:=hT.mono e1
            refine WC.seq<|WC.regionD [(true,0),(true,1),(true,2),(true,3),(true,4),(true,6),(true,7),(false,5),(false,8),(true,9),(true,10),(true,11),(true,12)] (Ext _) mixed (by kernel_rfl) (Ext.drew _) ?_
            refine WD.q rfl (fun _ hS=>r_move rfl) ?_
            refine WD.q rfl (fun _ hS=>r_len sl_27 rfl) ?_
            refine WD.q rfl (fun _ hS=>r_cmp (r_gtr rfl rfl) (decide_eq_false (by(omega)))) ?_
            refine WD.q rfl (fun _ hS=>r_move rfl) ?_
            refine WD.sk rfl rfl rfl rfl rfl ?_
            refine WD.sk rfl rfl rfl rfl rfl ?_
            refine WD.sk rfl rfl rfl rfl rfl ?_
            refine WD.lsk rfl ((Evo.drew _)) rfl rfl rfl rfl rfl ?_
            refine WD.lsk rfl ((Evo.drew _)) rfl rfl rfl rfl rfl ?_
            refine WD.sk rfl rfl rfl rfl rfl ?_
            refine WD.sk rfl rfl rfl rfl rfl ?_
            refine WD.sk rfl rfl rfl rfl rfl ?_
            refine WD.q rfl (fun _ hS=>r_pick rfl rfl rfl) ?_
            refine WD.nil ?_
            refine WC.condF rfl ?_
            refine WC.skip ?_
            refine WC.exit ?_
            replace hT:=hT.mono (Ext.drew _)
            replace hI8:=hI8.mono (Ext.drew _)
            exact⟨(l.length-1-8,_),(.cons rfl .nil),(.cons rfl .nil),⟨⟨_,hI8,ql8,hv8⟩,by dsimp only;omega,hT.evo⟩,(by dsimp only;omega)⟩
        · intro hc
          refine WC.skip ?_
          refine WC.exit ?_
          replace hT:=hT.mono e1
          replace hI1:=hI1.mono e1
          exact⟨(l.length-1,_),(.cons rfl .nil),(.cons rfl .nil),⟨⟨_,hI1,ql1,hv1⟩,by dsimp only;omega,hT.evo⟩,(by dsimp only;omega)⟩
      · skip
        refine WC.seq<|WC.seq<|WC.region ?_
        refine WL.q rfl (r_move rfl) ?_
        refine WL.q rfl (r_len sl_27 rfl) ?_
        refine WL.q rfl (r_cmp (r_gtr rfl rfl) (decide_eq_true (by(omega)))) ?_
        refine WL.nil ?_
        refine WC.condT rfl ?_
        refine WC.skip ?_
        refine WC.block ?_
        refine WC.seq<|WC.region ?_
        refine WL.q rfl (r_move rfl) ?_
        refine WL.q rfl (r_idx1 sl_27 rfl rfl rfl (by first|omega|(simp;done)|(simp;omega))) ?_
        refine WL.q rfl (r_load one_5 rfl (Ext.refl _) d0) ?_
        refine WL.q rfl (r_assign rfl) ?_
        refine WL.nil ?_
        refine WC.seq<|WC.seq<|WC.region ?_
        refine WL.q rfl (r_move rfl) ?_
        refine WL.q rfl (r_cmp (r_lss rfl rfl) (decide_eq_true (by(omega)))) ?_
        refine WL.nil ?_
        refine WC.condT rfl ?_
        refine WC.seq<|WC.region ?_
        refine WL.q rfl (r_move rfl) ?_
        refine WL.q rfl (r_slicel (l:=1) sl_27 rfl rfl rfl (by omega)) ?_
        refine WL.q rfl (r_assign rfl) ?_
        refine WL.nil ?_
        refine WC.seq<|WC.seq<|WC.region ?_
        refine WL.q rfl (r_move rfl) ?_
        refine WL.q rfl (r_len sl_27 rfl) ?_
        refine WL.q rfl (r_cmp (r_gtr rfl rfl) (decide_eq_false (by(omega)))) ?_
        refine WL.q rfl (r_move rfl) ?_
        refine WL.sk rfl rfl rfl rfl rfl ?_
        refine WL.sk rfl rfl rfl rfl rfl ?_
        refine WL.sk rfl rfl rfl rfl rfl ?_
        refine WL.sk rfl rfl rfl rfl rfl ?_
        refine WL.q rfl (r_pick rfl rfl rfl) ?_
        refine WL.nil ?_
        refine WC.condF rfl ?_
        refine WC.skip ?_
        refine WC.exit ?_
        exact⟨(l.length-1,_),(.cons rfl .nil),(.cons rfl .nil),⟨⟨_,hI1,ql1,hv1⟩,by dsimp only;omega,hT.evo⟩,(by dsimp only;omega)⟩
    · obtain⟨k,qk,qsz,qkl,qlo,qhi,q3,q4,hvk⟩:=lead_ok hv qne qa
      have qf:=fst_lt (l.getD 0 0).toNat
      have d1:=cellD (i:=1) hD0 (by omega)
      rcases qk with rfl|rfl|rfl
      · have hIk:=IsB.dropS (k:=2) hI qkl
        have hW:=Since.mk (Evo.refl (A:=fun _=>True) wi1)
        refine WC.seq<|WC.seq<|WC.region ?_
        refine WL.q rfl (r_move rfl) ?_
        refine WL.q rfl (r_len sl_27 rfl) ?_
        refine WL.q rfl (r_cmp (r_gtr rfl rfl) (decide_eq_true (by(omega)))) ?_
        refine WL.nil ?_
        refine WC.condT rfl ?_
        refine WC.skip ?_
        refine WC.block ?_
        refine WC.seq<|WC.region ?_
        refine WL.q rfl (r_move rfl) ?_
        refine WL.q rfl (r_idx1 sl_27 rfl rfl rfl (by first|omega|(simp;done)|(simp;omega))) ?_
        refine WL.q rfl (r_load one_5 rfl (Ext.refl _) d0) ?_
        refine WL.q rfl (r_assign rfl) ?_
        refine WL.nil ?_
        refine WC.seq<|WC.seq<|WC.region ?_
        refine WL.q rfl (r_move rfl) ?_
        refine WL.q rfl (r_cmp (r_lss rfl rfl) (decide_eq_false (by(omega)))) ?_
        refine WL.nil ?_
        refine WC.condF rfl ?_
        refine WC.skip ?_
        refine WC.seq<|WC.region ?_
        refine WL.q rfl (r_move rfl) ?_
        refine WL.q rfl (r_idxA h256 rfl rfl rfl qlt) ?_
        replace hU:=hU.mono hE
        refine WL.q rfl (r_load one_5 rfl (Ext.refl _) (utF hU qlt)) ?_
        refine WL.q rfl (r_assign rfl) ?_
        refine WL.nil ?_
        refine WC.seq<|WC.region ?_
        refine WL.q rfl (r_move rfl) ?_
        refine WL.q rfl (r_as (r_bitand rfl rfl) (and7n qf)) ?_
        refine WL.q rfl (r_cvIntE (m:=2) cv_5_3 rfl (by rw[qsz];decide)) ?_
        refine WL.q rfl (r_assign rfl) ?_
        refine WL.nil ?_
        refine WC.seq<|WC.region ?_
        refine WL.q rfl (r_move rfl) ?_
        refine WL.q rfl (r_as (r_shr rfl rfl (by decide)) (shr4n _)) ?_
        refine WL.q rfl (r_idxA h16 rfl rfl rfl (by omega)) ?_
        refine WL.q rfl (r_loadAgg agg_73 rfl (Ext.refl _) (utA hU (by omega))) ?_
        replace he:=he.then hE
        have hs1:=he.size
        refine WL.l rfl (l_alloc zt_73 rfl) fun _ w1 hh=>?_
        obtain⟨rfl,hb1,e1⟩:=hh
        refine WL.l0 (l_storeW sz_73 rfl rfl (by first|rfl|assumption|(simp[*];done)|simp[Value.oneCell', *]) (by first|rfl|simp[*]) hb1 (by first|rfl|simp[*])) fun _ w2 hh=>?_
        obtain⟨hb1,e2,hz2⟩:=hh
        refine WL.nil ?_
        refine WC.seq<|WC.region ?_
        refine WL.q rfl (r_move rfl) ?_
        refine WL.nil ?_
        refine WC.block ?_
        refine WC.seq<|WC.region ?_
        refine WL.q rfl (r_eql rfl rfl) ?_ --K
        refine WL.q rfl (r_assign rfl) ?_
        refine WL.nil ?_
        refine WC.condT rfl ?_
        replace hU:=hU.mono (e1.then e2)
        replace hI:=hI.mono (e1.then e2)
        replace hT:=hT.mono (e1.then e2)
        replace hIk:=hIk.mono (e1.then e2)
        replace hW:=hW.mono (e1.then e2)
        refine WC.seq<|WC.seq<|WC.regionD [(true,0),(true,1),(true,2),(true,3),(true,4),(true,5),(true,6),(true,7),(true,8),(true,9),(true,10),(true,11),(true,12),(true,13),(true,14),(true,15),(true,16),(true,17),(true,18)] (Ext _) mixed (by kernel_rfl) (Ext.drew _) ?_
        refine WD.q rfl (fun _ hS=>r_move rfl) ?_
        refine WD.q rfl (fun _ hS=>r_len sl_27 rfl) ?_
        refine WD.q rfl (fun _ hS=>r_cmp (r_lss rfl rfl) (decide_eq_false (by(omega)))) ?_
        refine WD.q rfl (fun _ hS=>r_move rfl) ?_
        refine WD.qg rfl rfl rfl rfl (fun _ hS=>r_move rfl) ?_
        refine WD.qg rfl rfl rfl rfl (fun _ hS=>r_idx1 sl_27 rfl rfl rfl (by first|omega|(simp;done)|(simp;omega))) ?_
        refine WD.qg rfl rfl rfl rfl (fun _ hS=>r_load one_5 rfl (hW.evo.then hS) d1) ?_
        refine WD.qg rfl rfl rfl rfl (fun _ hS=>r_fieldAddr rfl fo_73_0) ?_
        refine WD.qg rfl rfl rfl rfl (fun _ hS=>r_load one_5 rfl hS (hb1.get rfl)) ?_
        refine WD.qg rfl rfl rfl rfl (fun _ hS=>r_cmp (r_lss rfl rfl) (decide_eq_false (by(omega)))) ?_
        refine WD.q rfl (fun _ hS=>r_pick rfl rfl rfl) ?_
        refine WD.q rfl (fun _ hS=>r_move rfl) ?_
        refine WD.qg rfl rfl rfl rfl (fun _ hS=>r_fieldAddr rfl fo_73_1) ?_
        refine WD.qg rfl rfl rfl rfl (fun _ hS=>r_load one_5 rfl hS (hb1.get rfl)) ?_
        refine WD.qg rfl rfl rfl rfl (fun _ hS=>r_move rfl) ?_
        refine WD.qg rfl rfl rfl rfl (fun _ hS=>r_idx1 sl_27 rfl rfl rfl (by first|omega|(simp;done)|(simp;omega))) ?_
        refine WD.qg rfl rfl rfl rfl (fun _ hS=>r_load one_5 rfl (hW.evo.then hS) d1) ?_
        refine WD.qg rfl rfl rfl rfl (fun _ hS=>r_cmp (r_lss rfl rfl) (decide_eq_false (by(omega)))) ?_
        refine WD.q rfl (fun _ hS=>r_pick rfl rfl rfl) ?_
        refine WD.nil ?_
        refine WC.condF rfl ?_
        refine WC.skip ?_
        refine WC.region ?_
        refine WL.q rfl (r_move rfl) ?_
        refine WL.q rfl (r_slicel (l:=2) sl_27 rfl rfl rfl (by omega)) ?_
        refine WL.q rfl (r_assign rfl) ?_
        refine WL.nil ?_
        replace hT:=hT.mono (Ext.drew _)
        replace hIk:=hIk.mono (Ext.drew _)
        exact⟨(l.length-2,_),(.cons rfl .nil),(.cons rfl .nil),⟨⟨_,hIk,List.length_drop,hvk⟩,by dsimp only;omega,hT.evo⟩,(by dsimp only;omega)⟩
      · have hIk:=IsB.dropS (k:=3) hI qkl
        have hW:=Since.mk (Evo.refl (A:=fun _=>True) wi1)
        have d2:=cellD (i:=2) hD0 (by omega)
        have q3:=q3 (by omega)
        refine WC.seq<|WC.seq<|WC.region ?_
        refine WL.q rfl (r_move rfl) ?_
        refine WL.q rfl (r_len sl_27 rfl) ?_
        refine WL.q rfl (r_cmp (r_gtr rfl rfl) (decide_eq_true (by(omega)))) ?_
        refine WL.nil ?_
        refine WC.condT rfl ?_
        refine WC.skip ?_
        refine WC.block ?_
        refine WC.seq<|WC.region ?_
        refine WL.q rfl (r_move rfl) ?_
        refine WL.q rfl (r_idx1 sl_27 rfl rfl rfl (by first|omega|(simp;done)|(simp;omega))) ?_
        refine WL.q rfl (r_load one_5 rfl (Ext.refl _) d0) ?_
        refine WL.q rfl (r_assign rfl) ?_
        refine WL.nil ?_
        refine WC.seq<|WC.seq<|WC.region ?_
        refine WL.q rfl (r_move rfl) ?_
        refine WL.q rfl (r_cmp (r_lss rfl rfl) (decide_eq_false (by(omega)))) ?_
        refine WL.nil ?_
        refine WC.condF rfl ?_
        refine WC.skip ?_
        refine WC.seq<|WC.region ?_
        refine WL.q rfl (r_move rfl) ?_
        refine WL.q rfl (r_idxA h256 rfl rfl rfl qlt) ?_
        replace hU:=hU.mono hE
        refine WL.q rfl (r_load one_5 rfl (Ext.refl _) (utF hU qlt)) ?_
        refine WL.q rfl (r_assign rfl) ?_
        refine WL.nil ?_
        refine WC.seq<|WC.region ?_
        refine WL.q rfl (r_move rfl) ?_
        refine WL.q rfl (r_as (r_bitand rfl rfl) (and7n qf)) ?_
        refine WL.q rfl (r_cvIntE (m:=3) cv_5_3 rfl (by rw[qsz];decide)) ?_
        refine WL.q rfl (r_assign rfl) ?_
        refine WL.nil ?_
        refine WC.seq<|WC.region ?_
        refine WL.q rfl (r_move rfl) ?_
        refine WL.q rfl (r_as (r_shr rfl rfl (by decide)) (shr4n _)) ?_
        refine WL.q rfl (r_idxA h16 rfl rfl rfl (by omega)) ?_
        refine WL.q rfl (r_loadAgg agg_73 rfl (Ext.refl _) (utA hU (by omega))) ?_
        replace he:=he.then hE
        have hs1:=he.size
        refine WL.l rfl (l_alloc zt_73 rfl) fun _ w1 hh=>?_
        obtain⟨rfl,hb1,e1⟩:=hh
        refine WL.l0 (l_storeW sz_73 rfl rfl (by first|rfl|assumption|(simp[*];done)|simp[Value.oneCell', *]) (by first|rfl|simp[*]) hb1 (by first|rfl|simp[*])) fun _ w2 hh=>?_
        obtain⟨hb1,e2,hz2⟩:=hh
        refine WL.nil ?_
        refine WC.seq<|WC.region ?_
        refine WL.q rfl (r_move rfl) ?_
        refine WL.nil ?_
        refine WC.block ?_
        refine WC.seq<|WC.region ?_
        refine WL.q rfl (r_eql rfl rfl) ?_ --K
        refine WL.q rfl (r_assign rfl) ?_
        refine WL.nil ?_
        refine WC.condF rfl ?_
        refine WC.seq<|WC.region ?_
        refine WL.q rfl (r_eql rfl rfl) ?_ --K
        refine WL.q rfl (r_assign rfl) ?_
        refine WL.nil ?_
        refine WC.condT rfl ?_
        replace hU:=hU.mono (e1.then e2)
        replace hI:=hI.mono (e1.then e2)
        replace hT:=hT.mono (e1.then e2)
        replace hIk:=hIk.mono (e1.then e2)
        replace hW:=hW.mono (e1.then e2)
        refine WC.seq<|WC.seq<|WC.regionD [(true,0),(true,1),(true,2),(true,3),(true,4),(true,5),(true,6),(true,7),(true,8),(true,9),(true,10),(true,11),(true,12),(true,13),(true,14),(true,15),(true,16),(true,17),(true,18),(true,19),(true,20),(true,21),(true,22),(true,23),(true,24),(true,25),(true,26),(true,27),(true,28),(true,29),(true,30)] (Ext _) mixed (by kernel_rfl) (Ext.drew _) ?_
        refine WD.q rfl (fun _ hS=>r_move rfl) ?_
        refine WD.q rfl (fun _ hS=>r_len sl_27 rfl) ?_
        refine WD.q rfl (fun _ hS=>r_cmp (r_lss rfl rfl) (decide_eq_false (by(omega)))) ?_
        refine WD.q rfl (fun _ hS=>r_move rfl) ?_
        refine WD.qg rfl rfl rfl rfl (fun _ hS=>r_move rfl) ?_
        refine WD.qg rfl rfl rfl rfl (fun _ hS=>r_idx1 sl_27 rfl rfl rfl (by first|omega|(simp;done)|(simp;omega))) ?_
        refine WD.qg rfl rfl rfl rfl (fun _ hS=>r_load one_5 rfl (hW.evo.then hS) d1) ?_
        refine WD.qg rfl rfl rfl rfl (fun _ hS=>r_fieldAddr rfl fo_73_0) ?_
        refine WD.qg rfl rfl rfl rfl (fun _ hS=>r_load one_5 rfl hS (hb1.get rfl)) ?_
        refine WD.qg rfl rfl rfl rfl (fun _ hS=>r_cmp (r_lss rfl rfl) (decide_eq_false (by(omega)))) ?_
        refine WD.q rfl (fun _ hS=>r_pick rfl rfl rfl) ?_
        refine WD.q rfl (fun _ hS=>r_move rfl) ?_
        refine WD.qg rfl rfl rfl rfl (fun _ hS=>r_fieldAddr rfl fo_73_1) ?_
        refine WD.qg rfl rfl rfl rfl (fun _ hS=>r_load one_5 rfl hS (hb1.get rfl)) ?_
        refine WD.qg rfl rfl rfl rfl (fun _ hS=>r_move rfl) ?_
        refine WD.qg rfl rfl rfl rfl (fun _ hS=>r_idx1 sl_27 rfl rfl rfl (by first|omega|(simp;done)|(simp;omega))) ?_
        refine WD.qg rfl rfl rfl rfl (fun _ hS=>r_load one_5 rfl (hW.evo.then hS) d1) ?_
        refine WD.qg rfl rfl rfl rfl (fun _ hS=>r_cmp (r_lss rfl rfl) (decide_eq_false (by(omega)))) ?_
        refine WD.q rfl (fun _ hS=>r_pick rfl rfl rfl) ?_
        refine WD.q rfl (fun _ hS=>r_move rfl) ?_
        refine WD.qg rfl rfl rfl rfl (fun _ hS=>r_move rfl) ?_
        refine WD.qg rfl rfl rfl rfl (fun _ hS=>r_idx1 sl_27 rfl rfl rfl (by first|omega|(simp;done)|(simp;omega))) ?_
        refine WD.qg rfl rfl rfl rfl (fun _ hS=>r_load one_5 rfl (hW.evo.then hS) d2) ?_
        refine WD.qg rfl rfl rfl rfl (fun _ hS=>r_cmp (r_lss rfl rfl) (decide_eq_false (by(omega)))) ?_
        refine WD.q rfl (fun _ hS=>r_pick rfl rfl rfl) ?_
        refine WD.q rfl (fun _ hS=>r_move rfl) ?_
        refine WD.qg rfl rfl rfl rfl (fun _ hS=>r_move rfl) ?_
        refine WD.qg rfl rfl rfl rfl (fun _ hS=>r_idx1 sl_27 rfl rfl rfl (by first|omega|(simp;done)|(simp;omega))) ?_
        refine WD.qg rfl rfl rfl rfl (fun _ hS=>r_load one_5 rfl (hW.evo.then hS) d2) ?_
        refine WD.qg rfl rfl rfl rfl (fun _ hS=>r_cmp (r_lss rfl rfl) (decide_eq_false (by(omega)))) ?_
        refine WD.q rfl (fun _ hS=>r_pick rfl rfl rfl) ?_
        refine WD.nil ?_
        refine WC.condF rfl ?_
        refine WC.skip ?_
        refine WC.region ?_
        refine WL.q rfl (r_move rfl) ?_
        refine WL.q rfl (r_slicel (l:=3) sl_27 rfl rfl rfl (by omega)) ?_
        refine WL.q rfl (r_assign rfl) ?_
        refine WL.nil ?_
        replace hT:=hT.mono (Ext.drew _)
        replace hIk:=hIk.mono (Ext.drew _)
        exact⟨(l.length-3,_),(.cons rfl .nil),(.cons rfl .nil),⟨⟨_,hIk,List.length_drop,hvk⟩,by dsimp only;omega,hT.evo⟩,(by dsimp only;omega)⟩
      · have hIk:=IsB.dropS (k:=4) hI qkl
        have hW:=Since.mk (Evo.refl (A:=fun _=>True) wi1)
        have d2:=cellD (i:=2) hD0 (by omega)
        have d3:=cellD (i:=3) hD0 (by omega)
        have q3:=q3 (by omega)
        have q4:=q4 (by omega)
        refine WC.seq<|WC.seq<|WC.region ?_
        refine WL.q rfl (r_move rfl) ?_
        refine WL.q rfl (r_len sl_27 rfl) ?_
        refine WL.q rfl (r_cmp (r_gtr rfl rfl) (decide_eq_true (by(omega)))) ?_
        refine WL.nil ?_
        refine WC.condT rfl ?_
        refine WC.skip ?_
        refine WC.block ?_
        refine WC.seq<|WC.region ?_
        refine WL.q rfl (r_move rfl) ?_
        refine WL.q rfl (r_idx1 sl_27 rfl rfl rfl (by first|omega|(simp;done)|(simp;omega))) ?_
        refine WL.q rfl (r_load one_5 rfl (Ext.refl _) d0) ?_
        refine WL.q rfl (r_assign rfl) ?_
        refine WL.nil ?_
        refine WC.seq<|WC.seq<|WC.region ?_
        refine WL.q rfl (r_move rfl) ?_
        refine WL.q rfl (r_cmp (r_lss rfl rfl) (decide_eq_false (by(omega)))) ?_
        refine WL.nil ?_
        refine WC.condF rfl ?_
        refine WC.skip ?_
        refine WC.seq<|WC.region ?_
        refine WL.q rfl (r_move rfl) ?_
        refine WL.q rfl (r_idxA h256 rfl rfl rfl qlt) ?_
        replace hU:=hU.mono hE
        refine WL.q rfl (r_load one_5 rfl (Ext.refl _) (utF hU qlt)) ?_
        refine WL.q rfl (r_assign rfl) ?_
        refine WL.nil ?_
        refine WC.seq<|WC.region ?_
        refine WL.q rfl (r_move rfl) ?_
        refine WL.q rfl (r_as (r_bitand rfl rfl) (and7n qf)) ?_
        refine WL.q rfl (r_cvIntE (m:=4) cv_5_3 rfl (by rw[qsz];decide)) ?_
        refine WL.q rfl (r_assign rfl) ?_
        refine WL.nil ?_
        refine WC.seq<|WC.region ?_
        refine WL.q rfl (r_move rfl) ?_
        refine WL.q rfl (r_as (r_shr rfl rfl (by decide)) (shr4n _)) ?_
        refine WL.q rfl (r_idxA h16 rfl rfl rfl (by omega)) ?_
        refine WL.q rfl (r_loadAgg agg_73 rfl (Ext.refl _) (utA hU (by omega))) ?_
        replace he:=he.then hE
        have hs1:=he.size
        refine WL.l rfl (l_alloc zt_73 rfl) fun _ w1 hh=>?_
        obtain⟨rfl,hb1,e1⟩:=hh
        refine WL.l0 (l_storeW sz_73 rfl rfl (by first|rfl|assumption|(simp[*];done)|simp[Value.oneCell', *]) (by first|rfl|simp[*]) hb1 (by first|rfl|simp[*])) fun _ w2 hh=>?_
        obtain⟨hb1,e2,hz2⟩:=hh
        refine WL.nil ?_
        refine WC.seq<|WC.region ?_
        refine WL.q rfl (r_move rfl) ?_
        refine WL.nil ?_
        refine WC.block ?_
        refine WC.seq<|WC.region ?_
        refine WL.q rfl (r_eql rfl rfl) ?_ --K
        refine WL.q rfl (r_assign rfl) ?_
        refine WL.nil ?_
        refine WC.condF rfl ?_
        refine WC.seq<|WC.region ?_
        refine WL.q rfl (r_eql rfl rfl) ?_ --K
        refine WL.q rfl (r_assign rfl) ?_
        refine WL.nil ?_
        refine WC.condF rfl ?_
        refine WC.seq<|WC.region ?_
        refine WL.q rfl (r_eql rfl rfl) ?_ --K
        refine WL.q rfl (r_assign rfl) ?_
        refine WL.nil ?_
        refine WC.condT rfl ?_
        replace hU:=hU.mono (e1.then e2)
        replace hI:=hI.mono (e1.then e2)
        replace hT:=hT.mono (e1.then e2)
        replace hIk:=hIk.mono (e1.then e2)
        replace hW:=hW.mono (e1.then e2)
        refine WC.seq<|WC.seq<|WC.regionD [(true,0),(true,1),(true,2),(true,3),(true,4),(true,5),(true,6),(true,7),(true,8),(true,9),(true,10),(true,11),(true,12),(true,13),(true,14),(true,15),(true,16),(true,17),(true,18),(true,19),(true,20),(true,21),(true,22),(true,23),(true,24),(true,25),(true,26),(true,27),(true,28),(true,29),(true,30),(true,31),(true,32),(true,33),(true,34),(true,35),(true,36),(true,37),(true,38),(true,39),(true,40),(true,41),(true,42)] (Ext _) mixed (by kernel_rfl) (Ext.drew _) ?_
        refine WD.q rfl (fun _ hS=>r_move rfl) ?_
        refine WD.q rfl (fun _ hS=>r_len sl_27 rfl) ?_
        refine WD.q rfl (fun _ hS=>r_cmp (r_lss rfl rfl) (decide_eq_false (by(omega)))) ?_
        refine WD.q rfl (fun _ hS=>r_move rfl) ?_
        refine WD.qg rfl rfl rfl rfl (fun _ hS=>r_move rfl) ?_
        refine WD.qg rfl rfl rfl rfl (fun _ hS=>r_idx1 sl_27 rfl rfl rfl (by first|omega|(simp;done)|(simp;omega))) ?_
        refine WD.qg rfl rfl rfl rfl (fun _ hS=>r_load one_5 rfl (hW.evo.then hS) d1) ?_
        refine WD.qg rfl rfl rfl rfl (fun _ hS=>r_fieldAddr rfl fo_73_0) ?_
        refine WD.qg rfl rfl rfl rfl (fun _ hS=>r_load one_5 rfl hS (hb1.get rfl)) ?_
        refine WD.qg rfl rfl rfl rfl (fun _ hS=>r_cmp (r_lss rfl rfl) (decide_eq_false (by(omega)))) ?_
        refine WD.q rfl (fun _ hS=>r_pick rfl rfl rfl) ?_
        refine WD.q rfl (fun _ hS=>r_move rfl) ?_
        refine WD.qg rfl rfl rfl rfl (fun _ hS=>r_fieldAddr rfl fo_73_1) ?_
        refine WD.qg rfl rfl rfl rfl (fun _ hS=>r_load one_5 rfl hS (hb1.get rfl)) ?_
        refine WD.qg rfl rfl rfl rfl (fun _ hS=>r_move rfl) ?_
        refine WD.qg rfl rfl rfl rfl (fun _ hS=>r_idx1 sl_27 rfl rfl rfl (by first|omega|(simp;done)|(simp;omega))) ?_
        refine WD.qg rfl rfl rfl rfl (fun _ hS=>r_load one_5 rfl (hW.evo.then hS) d1) ?_
        refine WD.qg rfl rfl rfl rfl (fun _ hS=>r_cmp (r_lss rfl rfl) (decide_eq_false (by(omega)))) ?_
        refine WD.q rfl (fun _ hS=>r_pick rfl rfl rfl) ?_
        refine WD.q rfl (fun _ hS=>r_move rfl) ?_
        refine WD.qg rfl rfl rfl rfl (fun _ hS=>r_move rfl) ?_
        refine WD.qg rfl rfl rfl rfl (fun _ hS=>r_idx1 sl_27 rfl rfl rfl (by first|omega|(simp;done)|(simp;omega))) ?_
        refine WD.qg rfl rfl rfl rfl (fun _ hS=>r_load one_5 rfl (hW.evo.then hS) d2) ?_
        refine WD.qg rfl rfl rfl rfl (fun _ hS=>r_cmp (r_lss rfl rfl) (decide_eq_false (by(omega)))) ?_
        refine WD.q rfl (fun _ hS=>r_pick rfl rfl rfl) ?_
        refine WD.q rfl (fun _ hS=>r_move rfl) ?_
        refine WD.qg rfl rfl rfl rfl (fun _ hS=>r_move rfl) ?_
        refine WD.qg rfl rfl rfl rfl (fun _ hS=>r_idx1 sl_27 rfl rfl rfl (by first|omega|(simp;done)|(simp;omega))) ?_
        refine WD.qg rfl rfl rfl rfl (fun _ hS=>r_load one_5 rfl (hW.evo.then hS) d2) ?_
        refine WD.qg rfl rfl rfl rfl (fun _ hS=>r_cmp (r_lss rfl rfl) (decide_eq_false (by(omega)))) ?_
        refine WD.q rfl (fun _ hS=>r_pick rfl rfl rfl) ?_
        refine WD.q rfl (fun _ hS=>r_move rfl) ?_
        refine WD.qg rfl rfl rfl rfl (fun _ hS=>r_move rfl) ?_
        refine WD.qg rfl rfl rfl rfl (fun _ hS=>r_idx1 sl_27 rfl rfl rfl (by first|omega|(simp;done)|(simp;omega))) ?_
        refine WD.qg rfl rfl rfl rfl (fun _ hS=>r_load one_5 rfl (hW.evo.then hS) d3) ?_
        refine WD.qg rfl rfl rfl rfl (fun _ hS=>r_cmp (r_lss rfl rfl) (decide_eq_false (by(omega)))) ?_
        refine WD.q rfl (fun _ hS=>r_pick rfl rfl rfl) ?_
        refine WD.q rfl (fun _ hS=>r_move rfl) ?_
        refine WD.qg rfl rfl rfl rfl (fun _ hS=>r_move rfl) ?_
        refine WD.qg rfl rfl rfl rfl (fun _ hS=>r_idx1 sl_27 rfl rfl rfl (by first|omega|(simp;done)|(simp;omega))) ?_
        refine WD.qg rfl rfl rfl rfl (fun _ hS=>r_load one_5 rfl (hW.evo.then hS) d3) ?_
        refine WD.qg rfl rfl rfl rfl (fun _ hS=>r_cmp (r_lss rfl rfl) (decide_eq_false (by(omega)))) ?_
        refine WD.q rfl (fun _ hS=>r_pick rfl rfl rfl) ?_
        refine WD.nil ?_
        refine WC.condF rfl ?_
        refine WC.skip ?_
        refine WC.region ?_
        refine WL.q rfl (r_move rfl) ?_
        refine WL.q rfl (r_slicel (l:=4) sl_27 rfl rfl rfl (by omega)) ?_
        refine WL.q rfl (r_assign rfl) ?_
        refine WL.nil ?_
        replace hT:=hT.mono (Ext.drew _)
        replace hIk:=hIk.mono (Ext.drew _)
        exact⟨(l.length-4,_),(.cons rfl .nil),(.cons rfl .nil),⟨⟨_,hIk,List.length_drop,hvk⟩,by dsimp only;omega,hT.evo⟩,(by dsimp only;omega)⟩
end Go.Proofs.LL
