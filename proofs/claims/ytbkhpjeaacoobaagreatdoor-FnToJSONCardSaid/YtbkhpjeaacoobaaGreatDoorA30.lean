/- Contracts of functions and own laws. Conditions: those that each theorem states. -/
import Derived.Test.YtbkhpjeaacoobaaGreatDoorA29
set_option linter.all false
set_option maxRecDepth 20000
namespace Go.Proofs.LL
open Go Go.Proofs Go.RowKit
theorem body_64:bodyB Tryz.prog 64=true:=by kernel_rfl
theorem body_65:bodyB Tryz.prog 65=true:=by kernel_rfl
theorem key_enc{x:Pk}{bs:List UInt8}(h:EncP x bs)(hk:x.kind=6)(hJ:JOK x){L:Int}(hF:Fits L x){dep:Int}:RW 65 bs dep (200 * pvol x) (JB x):=by
  obtain⟨k,n,t,e,ks⟩:=x
  simp only[Pk.kind]at hk
  subst hk
  rw[EncP]at h
  rw[Fits]at hF
  rw[JOK]at hJ
  obtain⟨p0,p1,p2,p3,p4,p5,p6,p7,p8,p9,p10,pL⟩:=hF
  rcases h with⟨h,_⟩|⟨h,_⟩|⟨h,_⟩|⟨h,_⟩|⟨_,hd,hh,rfl⟩|⟨h,_⟩|⟨h,_⟩|⟨h,_⟩
  all_goals first|(exfalso;omega)|skip
  refine(rwKey_ok hh p9 (hJ.2.2.2.1 rfl)).weaken (by rw[pvol];omega) fun o ho=>?_
  obtain⟨q,h1,h2⟩:=ho
  rw[JB]
  exact .inr (.inr (.inr (.inr (.inr (.inl ⟨rfl,q,h1,h2⟩)))))
theorem rwMap_ok{hd body:List UInt8}{ks:List Pk}{L dep:Int}(hh:HeadP 128 16 mapF (ks.length / 2) hd)(hb:EncPL ks body)(hks:∀x∈ks,WNS x)(hF:FitsL (L-1) ks)(hJ:JOKL ks)(hN:N64L ks)(hlen:ks.length≤2000)(h2:ks.length%2=0)(hke:∀i (h:i<ks.length),i%2=0→ks[i].kind=6)(h0:0≤dep)(hL:0<L)(h1:dep+L≤1000):
    RW 44 (hd++body) dep (200 * pvolL ks+100) (fun o=>∃ps,JBL ks ps∧o=123::((cM ps).tail++[125])):=by
  intro M w tb l tv sv msg r hS hI hl
  rw[List.append_assoc]at hI
  refine does3 Tryz.func44 rfl rfl rfl ?_
  have he:Evo (M) w w:=Evo.refl w
  refine WC.seq<|WC.region ?_
  refine WL.q rfl (r_assign rfl) ?_
  refine WL.q rfl (r_assign rfl) ?_
  refine WL.q rfl (r_assign rfl) ?_
  refine WL.nil ?_
  refine WC.seq<|WC.seq<|WC.region ?_
  refine WL.q rfl (r_move rfl) ?_
  refine WL.q rfl (r_cmp (r_geq rfl rfl) (decide_eq_false (by(omega)))) ?_
  refine WL.nil ?_
  refine WC.condF rfl ?_
  refine WC.skip ?_
  refine WC.seq<|WC.region ?_
  refine WL.q rfl (r_move rfl) ?_
  refine WL.l rfl (l_do body_64 rfl (RMH_ok hh (by omega) hI)) fun v1 w1 hh=>?_
  obtain⟨⟨m1,rfl,hI⟩,e1⟩:=hh
  have ns1:w.heap.size≤w1.heap.size:=e1.size
  refine WL.q rfl (r_move rfl) ?_
  refine WL.q rfl (r_extract rfl rfl) ?_
  refine WL.q rfl (r_extract rfl rfl) ?_
  refine WL.q rfl (r_extract rfl rfl) ?_
  refine WL.q rfl (r_assign rfl) ?_
  refine WL.q rfl (r_assign rfl) ?_
  refine WL.q rfl (r_assign rfl) ?_
  refine WL.nil ?_
  refine WC.seq<|WC.seq<|WC.region ?_
  refine WL.q rfl (r_move rfl) ?_
  refine WL.q rfl (r_ifneNil ift_44 rfl) ?_
  refine WL.nil ?_
  refine WC.condF rfl ?_
  refine WC.skip ?_
  refine WC.seq<|WC.region ?_
  refine WL.q rfl (r_move rfl) ?_
  replace hS:=hS.mono e1
  refine WL.l rfl (l_invoke mWB body_173 rfl rfl (SByte_ok (c:=123) hS (by omega))) fun v2 w2 hh=>?_
  obtain⟨rfl,tv1,hS,e2⟩:=hh
  have ns2:w1.heap.size≤w2.heap.size:=e2.size
  refine WL.q rfl (r_assign rfl) ?_
  refine WL.nil ?_
  refine WC.seq<|WC.seq<|WC.region ?_
  refine WL.q rfl (r_move rfl) ?_
  refine WL.q rfl (r_ifneNil ift_44 rfl) ?_
  refine WL.nil ?_
  refine WC.condF rfl ?_
  refine WC.skip ?_
  refine WC.seq<|WC.seq<|WC.region ?_
  refine WL.q rfl (r_move rfl) ?_
  refine WL.q rfl (r_move rfl) ?_
  refine WL.nil ?_
  refine WC.block ?_
  replace hI:=hI.mono e2
  replace he:=(he.then e1).then e2
  refine WC.loop2 (ι:=(Nat×Value×Value)) [(0,_),(3,_),(8,_),(9,_),(10,_),(37,_)] (fun a=>[(1,a.2.1),(2,a.2.2),(12,.nilIface),(38,.int .u32 (a.1:Int))]) (fun a wi=>(∃tv rest ps,EncPL (ks.drop (2 * a.1)) rest∧JBL (ks.take (2 * a.1)) ps∧IsB M wi a.2.1 (rest++r)∧St M wi tb (l++123::(cM ps).tail) tv a.2.2)∧a.1≤ks.length / 2∧Evo M w2 wi) (fun a=>ks.length / 2-a.1) (0,m1,sv) (.cons rfl (.cons rfl (.cons rfl (.cons rfl (.cons rfl (.cons rfl .nil)))))) (.cons rfl (.cons rfl (.cons rfl (.cons rfl .nil)))) (⟨⟨_,body,[],by rw[Nat.mul_zero,List.drop_zero];exact hb,by rw[Nat.mul_zero,List.take_zero,JBL],hI,hS⟩,Nat.zero_le _,Evo.refl _⟩) ?_
  intro a wi1 hh;obtain⟨hQ,q1,hE⟩:=hh
  obtain⟨k,mv,sv2⟩:=a
  dsimp only at hQ q1⊢
  obtain⟨tv2,rest,ps,qR,qP,hI,hS⟩:=hQ
  have hT:=Since.mk hE
  have qpl:=qP.len
  rw[List.length_take,Nat.min_eq_left (by omega)]at qpl
  have qcl:=(jbl_len qP (hN.take (2 * k))).2
  rcases Nat.lt_or_ge k (ks.length / 2)with qk|qk
  · have qk0:2 * k<ks.length:=by omega
    have qk1:2 * k+1<ks.length:=by omega
    obtain⟨b1,b2,rfl,qa,qb⟩:=qR.at qk0
    obtain⟨b3,b4,rfl,qa2,qb2⟩:=qb.at qk1
    have qmem:=List.getElem_mem qk0
    have qmem2:=List.getElem_mem qk1
    have qv:=pvolL_take qk0
    have qv2:=pvolL_take qk1
    have qv3:=pvolL_le (l:=ks) (2 * k+1+1)
    rw[List.append_assoc]at hI
    have hU:=Since.mk (Evo.refl (A:=M) wi1)
    refine WC.seq<|WC.region ?_
    refine WL.q rfl (r_cmp (r_lss rfl rfl) (decide_eq_true (by(omega)))) ?_
    refine WL.nil ?_
    refine WC.seq<|WC.condT rfl ?_
    refine WC.skip ?_
    refine WC.seq<|WC.block ?_
    refine WC.seq<|WC.region ?_
    refine WL.q rfl (r_move rfl) ?_
    refine WL.q rfl (r_assign rfl) ?_
    refine WL.nil ?_
    refine WC.seq<|WC.seq<|WC.region ?_
    refine WL.q rfl (r_move rfl) ?_
    refine WL.q rfl (r_neq rfl rfl) ?_
    refine WL.nil ?_
    replace he:=he.then hE
    refine WC.thenJ (ι:=Nat) [(0,_),(1,_),(2,_),(3,_),(8,_),(9,_),(10,_),(37,_),(38,_)] (fun i=>[(12,.nilIface)]) (fun i wi=>(∃tv,St M wi tb (l++123::preA k (cM ps).tail) tv sv2)∧Evo M wi1 wi) (.cons rfl (.cons rfl (.cons rfl (.cons rfl (.cons rfl (.cons rfl (.cons rfl (.cons rfl (.cons rfl .nil))))))))) ?_ ?_
    · rcases Nat.eq_zero_or_pos k with qz|qz
      · skip
        refine WC.condF (congrArg (fun b=>some (Value.bool b)) (show((k:Int) !=0)=false by simp;omega)) ?_
        refine WC.skip ?_
        have qU:=hU.evo
        have qS:=hS
        have qe:ps=[]:=List.eq_nil_of_length_eq_zero (by omega)
        exact⟨0,(.cons rfl (.cons rfl (.cons rfl (.cons rfl (.cons rfl (.cons rfl (.cons rfl (.cons rfl (.cons rfl .nil))))))))),(.cons rfl .nil),⟨⟨_,by unfold preA;rw[if_pos qz];rw[qe]at qS;exact qS⟩,qU⟩⟩
      · skip
        refine WC.condT (congrArg (fun b=>some (Value.bool b)) (show((k:Int) !=0)=true by simp;omega)) ?_
        refine WC.seq<|WC.region ?_
        refine WL.q rfl (r_move rfl) ?_
        refine WL.l rfl (l_invoke mWB body_173 rfl rfl (SByte_ok (c:=44) hS (by simp;omega))) fun v3 w3 hh=>?_
        obtain⟨rfl,tv3,hS,e3⟩:=hh
        have ns3:wi1.heap.size≤w3.heap.size:=e3.size
        refine WL.q rfl (r_assign rfl) ?_
        refine WL.nil ?_
        refine WC.seq<|WC.region ?_
        refine WL.q rfl (r_move rfl) ?_
        refine WL.q rfl (r_ifneNil ift_44 rfl) ?_
        refine WL.nil ?_
        refine WC.condF rfl ?_
        refine WC.skip ?_
        replace hU:=hU.mono e3
        have qU:=hU.evo
        have qS:=hS
        exact⟨0,(.cons rfl (.cons rfl (.cons rfl (.cons rfl (.cons rfl (.cons rfl (.cons rfl (.cons rfl (.cons rfl .nil))))))))),(.cons rfl .nil),⟨⟨_,by unfold preA;rw[if_neg (by omega)];simpa using qS⟩,qU⟩⟩
    · skip
      intro i wj hh;obtain⟨⟨tv4,hS⟩,hE⟩:=hh
      have qprl:(preA k (cM ps).tail).length≤(cM ps).length+1:=by unfold preA;split<;>simp<;>omega
      refine WC.seq<|WC.region ?_
      refine WL.q rfl (r_move rfl) ?_
      refine WL.q rfl (r_move rfl) ?_
      refine WL.q rfl (r_move rfl) ?_
      refine WL.q rfl (r_move rfl) ?_
      replace hI:=hI.mono hE
      refine WL.l rfl (l_do body_65 rfl ((key_enc qa (hke _ qk0 (by omega)) (hJ.mem _ qmem) (hF.mem _ qmem)) _ _ _ _ _ _ _ _ hS hI (by simp;omega))) fun v3 w3 hh=>?_
      obtain⟨m2,tv5,sv5,o5,rfl,qo,hI,hS,e3⟩:=hh
      have q5l:=jb_len qo (hN.mem _ qmem)
      rw[List.append_assoc]at hI
      have ns3:wj.heap.size≤w3.heap.size:=e3.size
      refine WL.q rfl (r_move rfl) ?_
      refine WL.q rfl (r_extract rfl rfl) ?_
      refine WL.q rfl (r_extract rfl rfl) ?_
      refine WL.q rfl (r_extract rfl rfl) ?_
      refine WL.q rfl (r_assign rfl) ?_
      refine WL.q rfl (r_assign rfl) ?_
      refine WL.q rfl (r_assign rfl) ?_
      refine WL.nil ?_
      refine WC.seq<|WC.seq<|WC.region ?_
      refine WL.q rfl (r_move rfl) ?_
      refine WL.q rfl (r_ifneNil ift_44 rfl) ?_
      refine WL.nil ?_
      refine WC.condF rfl ?_
      refine WC.skip ?_
      refine WC.seq<|WC.region ?_
      refine WL.q rfl (r_move rfl) ?_
      refine WL.l rfl (l_invoke mWB body_173 rfl rfl (SByte_ok (c:=58) hS (by simp;omega))) fun v4 w4 hh=>?_
      obtain⟨rfl,tv6,hS,e4⟩:=hh
      have ns4:w3.heap.size≤w4.heap.size:=e4.size
      refine WL.q rfl (r_assign rfl) ?_
      refine WL.nil ?_
      refine WC.seq<|WC.seq<|WC.region ?_
      refine WL.q rfl (r_move rfl) ?_
      refine WL.q rfl (r_ifneNil ift_44 rfl) ?_
      refine WL.nil ?_
      refine WC.condF rfl ?_
      refine WC.skip ?_
      refine WC.seq<|WC.region ?_
      refine WL.q rfl (r_move rfl) ?_
      refine WL.q rfl (r_move rfl) ?_
      refine WL.q rfl (r_move rfl) ?_
      refine WL.q rfl (r_move rfl) ?_
      refine WL.q rfl (r_addi rfl rfl rfl (by omega) (by omega)) ?_
      replace hI:=hI.mono e4
      refine WL.l rfl (l_do body_24 rfl ((hks _ qmem2 (L-1) (dep+1) b3 (hF.mem _ qmem2) (hJ.mem _ qmem2) (hN.mem _ qmem2) qa2 (by omega) (by omega)) _ _ _ _ _ _ _ _ hS hI (by simp;omega))) fun v5 w5 hh=>?_
      obtain⟨m7,tv7,sv7,o7,rfl,qo7,hI,hS,e5⟩:=hh
      have ns5:w4.heap.size≤w5.heap.size:=e5.size
      refine WL.q rfl (r_move rfl) ?_
      refine WL.q rfl (r_extract rfl rfl) ?_
      refine WL.q rfl (r_extract rfl rfl) ?_
      refine WL.q rfl (r_extract rfl rfl) ?_
      refine WL.q rfl (r_assign rfl) ?_
      refine WL.q rfl (r_assign rfl) ?_
      refine WL.q rfl (r_assign rfl) ?_
      refine WL.nil ?_
      refine WC.seq<|WC.region ?_
      refine WL.q rfl (r_move rfl) ?_
      refine WL.q rfl (r_ifneNil ift_44 rfl) ?_
      refine WL.nil ?_
      refine WC.condF rfl ?_
      refine WC.skip ?_
      refine WC.region ?_
      refine WL.q rfl (r_as (r_add rfl rfl) (wu32 (by omega) (by omega))) ?_
      refine WL.q rfl (r_move rfl) ?_
      refine WL.nil ?_
      have qt5:ks.take (2 * k+1)=ks.take (2 * k)++[ks[2 * k]]:=(List.take_append_getElem qk0).symm
      have qt6:ks.take (2 * (k+1))=ks.take (2 * k+1)++[ks[2 * k+1]]:=(List.take_append_getElem qk1).symm
      have q7:JBL (ks.take (2 * (k+1))) (ps++[o5,o7]):=by
        rw[qt6,qt5,show ps++[o5,o7]=(ps++[o5])++[o7] by simp]
        exact(qP.snoc qo).snoc qo7
      replace hT:=(((hT.mono hE).mono e3).mono e4).mono e5
      exact⟨(k+1,m7,sv7),(.cons rfl (.cons rfl (.cons rfl (.cons rfl (.cons rfl (.cons rfl .nil)))))),(.cons rfl (.cons rfl (.cons rfl (.cons (lk_int rfl (by first|omega|(dsimp only;omega)|(dsimp only;done))) .nil)))),⟨⟨_,b4,ps++[o5,o7],qb2,q7,hI,by rw[← preA_cM qpl];simpa using hS⟩,qk,hT.evo⟩,(by dsimp only;omega)⟩
  · have qin:2 * k=ks.length:=by omega
    rw[qin]at qP qR
    have qn:=qR.done
    subst qn
    rw[List.take_length]at qP
    rw[qin]at qcl
    have qpv:=pvolL_le (l:=ks) ks.length
    refine WC.seq<|WC.region ?_
    refine WL.q rfl (r_cmp (r_lss rfl rfl) (decide_eq_false (by(omega)))) ?_
    refine WL.nil ?_
    refine WC.seq<|WC.condF rfl ?_
    refine WC.exit ?_
    refine WC.seq<|WC.region ?_
    refine WL.q rfl (r_move rfl) ?_
    refine WL.l rfl (l_invoke mWB body_173 rfl rfl (SByte_ok (c:=125) hS (by simp;omega))) fun v3 w3 hh=>?_
    obtain⟨rfl,tv3,hS,e3⟩:=hh
    have ns3:wi1.heap.size≤w3.heap.size:=e3.size
    refine WL.q rfl (r_assign rfl) ?_
    refine WL.nil ?_
    refine WC.seq<|WC.region ?_
    refine WL.q rfl (r_move rfl) ?_
    refine WL.q rfl (r_move rfl) ?_
    refine WL.q rfl (r_move rfl) ?_
    refine WL.q rfl (r_assign rfl) ?_
    refine WL.q rfl (r_assign rfl) ?_
    refine WL.q rfl (r_assign rfl) ?_
    refine WL.nil ?_
    refine WC.ret ?_
    replace hI:=hI.mono e3
    replace he:=(he.then hE).then e3
    exact fin3 rfl rfl rfl ⟨_,_,_,_,rfl,⟨ps,qP,rfl⟩,hI,(by simpa using hS),he⟩
end Go.Proofs.LL
set_option maxRecDepth 20000
namespace Go.Proofs.LL
open Go Go.Proofs Go.RowKit
theorem wi8(n:Int):IntKind.i8.wrap n=(n+128)%256-128:=by
  simp[IntKind.wrap,IntKind.bits,IntKind.signed]
  split<;>omega
theorem wi16(n:Int):IntKind.i16.wrap n=(n+32768)%65536-32768:=by
  simp[IntKind.wrap,IntKind.bits,IntKind.signed]
  split<;>omega
theorem tyI8{x:UInt8}(h:x.toNat<128∨224≤x.toNat):tyI (x.toNat:Int)=8:=by
  have:∀n:Fin 256,n.val<128∨224≤n.val→tyI (n.val:Int)=8:=by decide
  exact this ⟨x.toNat,UInt8.toNat_lt x⟩ h
theorem binTy{n:Nat}{hd:List UInt8}(hh:HeadP (-1) 0 binF n hd):∃x r,hd=x::r∧tyI (x.toNat:Int)=2:=by
  rcases hh with⟨fx,h1,h2,rfl⟩|⟨p,hp,_,rfl⟩
  · omega
  · refine⟨_,_,rfl,?_⟩
    simp only[binF,List.mem_cons,List.not_mem_nil,or_false]at hp
    rcases hp with rfl|rfl|rfl<;>decide
theorem arrTy{n:Nat}{hd:List UInt8}(hh:HeadP 144 16 arrF n hd):∃x r,hd=x::r∧tyI (x.toNat:Int)=4:=by
  rcases hh with⟨fx,h1,h2,rfl⟩|⟨p,hp,_,rfl⟩
  · obtain rfl:fx=144:=by omega
    have hf:∀n:Fin 16,tyI ((UInt8.ofNat (144+n.val)).toNat:Int)=4:=by decide
    exact⟨_,_,rfl,hf ⟨n,h2⟩⟩
  · refine⟨_,_,rfl,?_⟩
    simp only[arrF,List.mem_cons,List.not_mem_nil,or_false]at hp
    rcases hp with rfl|rfl<;>decide
theorem mapTy{n:Nat}{hd:List UInt8}(hh:HeadP 128 16 mapF n hd):∃x r,hd=x::r∧tyI (x.toNat:Int)=3:=by
  rcases hh with⟨fx,h1,h2,rfl⟩|⟨p,hp,_,rfl⟩
  · obtain rfl:fx=128:=by omega
    have hf:∀n:Fin 16,tyI ((UInt8.ofNat (128+n.val)).toNat:Int)=3:=by decide
    exact⟨_,_,rfl,hf ⟨n,h2⟩⟩
  · refine⟨_,_,rfl,?_⟩
    simp only[mapF,List.mem_cons,List.not_mem_nil,or_false]at hp
    rcases hp with rfl|rfl<;>decide
theorem it_len{i:Int}(h0: -9223372036854775808≤i)(h1:i≤18446744073709551615):(Lib.itoa i).length≤1000:=by
  unfold Lib.itoa
  split
  · have:=dd_len (n:=i.natAbs) (by omega)
    rw[List.length_cons];omega
  · have:=dd_len (n:=i.toNat) (by omega)
    omega
theorem it_pos(n:Nat):Lib.itoa (n:Int)=Lib.decDigits n:=by unfold Lib.itoa;rw[if_neg (by omega)];simp
theorem it_neg{n:Nat}(h:n<18446744073709551616):Lib.itoa ((n:Int)-18446744073709551616)=45::Lib.decDigits (18446744073709551616-n):=by
  unfold Lib.itoa
  rw[if_pos (by omega),show((n:Int)-18446744073709551616).natAbs=18446744073709551616-n by omega]
def RI(bs:List UInt8)(i:Int):Prop:=∀(A:Nat→Prop) (v:Value) (r:List UInt8) (w:World),IsB A w v (bs++r)→Does Tryz.prog 71 [v] w fun u w'=>(∃v',u= .tuple #[.int .i64 i,v',.nilIface]∧IsB A w' v' r)∧Ext w w'
theorem wnI{dep i:Int}{x:UInt8}{bs:List UInt8}(hz:tyI (x.toNat:Int)=8)(hR:RI (x::bs) i)(h0: -9223372036854775808≤i)(h1:i≤9223372036854775807):RW 24 (x::bs) dep 1000 (· =Lib.itoa i):=
  wn_ok hz (by decide) (rwInt_ok hR h0 h1 (it_len h0 (by omega)))
theorem wnU{dep:Int}{i:Nat}{x:UInt8}{bs:List UInt8}(hz:tyI (x.toNat:Int)=9)(hR:∀(A:Nat→Prop) (v:Value) (r:List UInt8) (w:World),IsB A w v ((x::bs)++r)→Does Tryz.prog 73 [v] w fun u w'=>(∃v',u= .tuple #[.int .u64 (i:Int),v',.nilIface]∧IsB A w' v' r)∧Ext w w')
    (h1:i<18446744073709551616):RW 24 (x::bs) dep 1000 (· =Lib.decDigits i):=
  wn_ok hz (by decide) (rwUint_ok hR h1 (by have:=dd_len h1;omega))
theorem neg_w{dep:Int}{n:Nat}{bs:List UInt8}(h:NegE n bs)(h0:9223372036854775808≤n)(h1:n<18446744073709551616):RW 24 bs dep 1000 (· =45::Lib.decDigits (18446744073709551616-n)):=by
  rw[← it_neg h1]
  rcases h with⟨h2,rfl⟩|⟨i,hi,h2,rfl⟩
  · have e:(UInt8.ofNat (n.mod 256)).toNat=n%256:=by rw[UInt8.toNat_ofNat'];show n%256%256=_;omega
    have hv:((UInt8.ofNat (n.mod 256)).toNat:Int)-256=(n:Int)-18446744073709551616:=by rw[e];omega
    refine wnI (tyI8 (.inr (by rw[e];omega))) (fun A v r w hI=>?_) (by omega) (by omega)
    rw[← hv]
    exact RIn_ok (by rw[e];omega) hI
  · rcases(show i=0∨i=1∨i=2∨i=3 by omega)with rfl|rfl|rfl|rfl
    · refine wnI (by decide) (fun A v r w hI=>RI208_ok (n:=n) ?_ (by omega) (by omega) hI) (by omega) (by omega)
      show IntKind.i8.wrap ((n%256:Nat):Int)=_
      rw[wi8];omega
    · refine wnI (by decide) (fun A v r w hI=>RI209_ok (n:=n) ?_ (by omega) (by omega) hI) (by omega) (by omega)
      show IntKind.i16.wrap ((n%65536:Nat):Int)=_
      rw[wi16];omega
    · refine wnI (by decide) (fun A v r w hI=>RI210_ok (n:=n) ?_ (by omega) (by omega) hI) (by omega) (by omega)
      show IntKind.i32.wrap ((n%4294967296:Nat):Int)=_
      rw[IntKind.wrap_i32];omega
    · refine wnI (by decide) (fun A v r w hI=>RI211_ok (n:=n) ?_ (by omega) (by omega) hI) (by omega) (by omega)
      show IntKind.i64.wrap ((n%18446744073709551616:Nat):Int)=_
      rw[IntKind.wrap_i64];omega
theorem pos_w{dep:Int}{n:Nat}{bs:List UInt8}(h:PosE n bs)(h1:n<18446744073709551616):RW 24 bs dep 1000 (· =Lib.decDigits n):=by
  rcases h with⟨h2,rfl⟩|⟨i,hi,h2,rfl⟩|⟨i,hi,h2,rfl⟩
  · have e:(UInt8.ofNat n).toNat=n:=by rw[UInt8.toNat_ofNat'];omega
    rw[← it_pos]
    refine wnI (tyI8 (.inl (by rw[e];omega))) (fun A v r w hI=>?_) (by omega) (by omega)
    have:=RIp_ok (by rw[e];omega) hI
    rw[e]at this
    exact this
  · rcases(show i=0∨i=1∨i=2∨i=3 by omega)with rfl|rfl|rfl|rfl
    · exact wnU (by decide) (fun A v r w hI=>RU204_ok (by omega) hI) h1
    · exact wnU (by decide) (fun A v r w hI=>RU205_ok (by omega) hI) h1
    · exact wnU (by decide) (fun A v r w hI=>RU206_ok (by omega) hI) h1
    · exact wnU (by decide) (fun A v r w hI=>RU207_ok (by omega) hI) h1
  · rw[← it_pos]
    rcases(show i=0∨i=1∨i=2∨i=3 by omega)with rfl|rfl|rfl|rfl
    · refine wnI (by decide) (fun A v r w hI=>RI208_ok (n:=n) ?_ (by omega) (by omega) hI) (by omega) (by omega)
      show IntKind.i8.wrap ((n%256:Nat):Int)=_
      rw[wi8];omega
    · refine wnI (by decide) (fun A v r w hI=>RI209_ok (n:=n) ?_ (by omega) (by omega) hI) (by omega) (by omega)
      show IntKind.i16.wrap ((n%65536:Nat):Int)=_
      rw[wi16];omega
    · refine wnI (by decide) (fun A v r w hI=>RI210_ok (n:=n) ?_ (by omega) (by omega) hI) (by omega) (by omega)
      show IntKind.i32.wrap ((n%4294967296:Nat):Int)=_
      rw[IntKind.wrap_i32];omega
    · refine wnI (by decide) (fun A v r w hI=>RI211_ok (n:=n) ?_ (by omega) (by omega) hI) (by omega) (by omega)
      show IntKind.i64.wrap ((n%18446744073709551616:Nat):Int)=_
      rw[IntKind.wrap_i64];omega
theorem wns_one{k:Int}{n:Nat}{t:List UInt8}{o:Int}{ks:List Pk}(hks:∀x∈ks,WNS x):WNS (.mk k n t o ks):=by
  intro L dep bs hF hJ hN hE h0 h1
  rw[Fits]at hF
  rw[JOK]at hJ
  rw[N64]at hN
  rw[EncP]at hE
  obtain⟨p0,p1,p2,p3,p4,p5,p6,p7,p8,p9,p10,pL⟩:=hF
  obtain⟨hn,hl,hNl⟩:=hN
  have hpv:pvol (.mk k n t o ks)=10+t.length+pvolL ks:=by rw[pvol]
  rcases hE with⟨rfl,rfl⟩|⟨rfl,rfl⟩|⟨rfl,h2,h⟩|⟨h2,h⟩|⟨rfl,hd,h,rfl⟩|⟨rfl,hd,h,rfl⟩|⟨rfl,hd,body,h,hb,rfl⟩|⟨rfl,hd,body,h,hb,rfl⟩
  · refine(wn_ok (z:=10) (by decide) (by decide) rwNull_ok).weaken (by omega) fun o ho=>?_
    rw[JB];exact .inl ⟨rfl,ho⟩
  · rcases(show n=0∨n=1 by have:=p6 rfl;omega)with rfl|rfl
    · refine(wn_ok (z:=7) (by decide) (by decide) rwFalse_ok).weaken (by omega) fun o ho=>?_
      rw[JB];exact .inr (.inr (.inl ⟨rfl,rfl,ho⟩))
    · refine(wn_ok (z:=7) (by decide) (by decide) rwTrue_ok).weaken (by omega) fun o ho=>?_
      rw[JB];exact .inr (.inl ⟨rfl,rfl,ho⟩)
  · refine(neg_w h h2 hn).weaken (by omega) fun o ho=>?_
    rw[JB];exact .inr (.inr (.inr (.inl ⟨rfl,h2,ho⟩)))
  · refine(pos_w h hn).weaken (by omega) fun o ho=>?_
    rw[JB];exact .inr (.inr (.inr (.inr (.inl ⟨h2,ho⟩))))
  · obtain⟨x,r,rfl,hz⟩:=strTy h
    refine(wn_ok hz (by decide) (rwStr_ok h p9 (hJ.2.2.2.1 rfl))).weaken (by omega) fun o ho=>?_
    rw[JB];exact .inr (.inr (.inr (.inr (.inr (.inl ⟨rfl,ho⟩)))))
  · obtain⟨x,r,rfl,hz⟩:=binTy h
    refine(wn_ok hz (by decide) (rwBin_ok h p9)).weaken (by omega) fun o ho=>?_
    rw[JB];exact .inr (.inr (.inr (.inr (.inr (.inr (.inl ⟨rfl,ho⟩))))))
  · obtain⟨x,r,rfl,hz⟩:=arrTy h
    refine(wn_ok hz (by decide) (rwArr_ok h hb hks pL (hJ.2.2.2.2.1 (.inl rfl)) hNl (by omega) h0 p10 h1)).weaken (by omega) fun o ho=>?_
    rw[JB];exact .inr (.inr (.inr (.inr (.inr (.inr (.inr (.inl ⟨rfl,ho⟩)))))))
  · obtain⟨x,r,rfl,hz⟩:=mapTy h
    refine(wn_ok hz (by decide) (rwMap_ok h hb hks pL (hJ.2.2.2.2.1 (.inr rfl)) hNl (by omega) (p7 rfl) (hJ.2.2.2.2.2 rfl) h0 p10 h1)).weaken (by omega) fun o ho=>?_
    rw[JB];exact .inr (.inr (.inr (.inr (.inr (.inr (.inr (.inr ⟨rfl,ho⟩)))))))
theorem wnss:∀x:Pk,WNS x:=Pk.ind fun _ _ _ _ _ h=>wns_one h
end Go.Proofs.LL
set_option maxRecDepth 20000
namespace Go.Proofs.LL
open Go Go.Proofs Go.RowKit
theorem body_12:bodyB Tryz.prog 12=true:=by kernel_rfl
theorem body_13:bodyB Tryz.prog 13=true:=by kernel_rfl
theorem conc_47:concT Tryz.prog 47=true:=by kernel_rfl
theorem zt_42:zeroT Tryz.prog 42=some (.agg #[.slice none 0 0]):=by kernel_rfl
theorem r_assertI{P:Program}{ρ:Fr}{w:World}{ty:TypeId}{x:Operand}{a t s:TypeId}{v:Value}(ht:impT P a t=true)(hx:ov ρ x=some (.iface t v)):RunOp P (.typeAssert x s a false) ty ρ w (.iface t v):=by
  intro N D ac dst pos af g ha
  unfold impT at ht
  split at ht
  · rename_i want i hu hi
    have hm:Instr.missingMethod want i.methods=none:=by simpa using ht
    simp[execOp,ha.ov hx,Instr.typeAssert,underlying,hu,typeInfo,hi,hm]
  · cases ht
theorem copied_ok{A:Nat→Prop}{v:Value}{l:List UInt8}{w:World}(h:IsB A w v l)(hl:l.length≤1000000000):
    Does Tryz.prog 13 [v] w fun r w'=>(∃N,w.heap.size≤N∧Own N 5 1 w' r l.length (bc l))∧Ext w w':=by
  refine does1 Tryz.func13 rfl rfl rfl ?_
  have he:Evo (fun _=>True) w w:=Evo.refl w
  refine WC.seq<|WC.region ?_
  refine WL.q rfl (r_assign rfl) ?_
  refine WL.nil ?_
  refine WC.seq<|WC.region ?_
  have hs1:=he.size
  refine WL.l rfl (l_lit0 slz_27) fun _ w1 hh=>?_
  obtain⟨rfl,ho1,e1⟩:=hh
  refine WL.q rfl (r_move rfl) ?_
  replace h:=h.mono e1
  refine WL.l rfl (l_app slz_27 rfl rfl ho1 (Src.isB slk_27 h) (by have:=e1.size;omega) (by simp only[maxLen];omega) (by omega)) fun v2 w2 hh=>?_
  obtain⟨hO,e2⟩:=hh
  refine WL.q rfl (r_assign rfl) ?_
  refine WL.nil ?_
  refine WC.ret ?_
  rw[Nat.zero_add,List.nil_append]at hO
  replace he:=(he.then e1).then e2
  exact fin1 rfl ⟨⟨w.heap.size,Nat.le_refl _,hO⟩,he⟩
theorem encP_pos{x:Pk}{bs:List UInt8}(h:EncP x bs):0<bs.length:=by
  obtain⟨k,n,t,e,ks⟩:=x
  rw[EncP]at h
  rcases h with⟨_,rfl⟩|⟨_,rfl⟩|⟨_,_,h⟩|⟨_,h⟩|⟨_,hd,h,rfl⟩|⟨_,hd,h,rfl⟩|⟨_,hd,body,h,hb,rfl⟩|⟨_,hd,body,h,hb,rfl⟩
  · simp
  · simp
  · rcases h with⟨_,rfl⟩|⟨_,_,_,rfl⟩<;>simp
  · rcases h with⟨_,rfl⟩|⟨_,_,_,rfl⟩|⟨_,_,_,rfl⟩<;>simp
  · obtain⟨y,r,rfl,_⟩:=strTy h;simp
  · obtain⟨y,r,rfl,_⟩:=binTy h;simp
  · obtain⟨y,r,rfl,_⟩:=arrTy h;simp
  · obtain⟨y,r,rfl,_⟩:=mapTy h;simp
theorem UJ_ok{M:Nat→Prop}{w:World}{tb:Nat}{tv msg:Value}{x:Pk}{L:Int}{bs:List UInt8}(hS:St M w tb [] tv (.slice none 0 0))(hI:IsB M w msg bs)(hF:Fits L x)(hL:L≤1000)(hJ:JOK x)(hN:N64 x)(hE0:EncP x bs)(hv:pvol x≤1000000000):
    Does Tryz.prog 12 [wr tb,msg] w fun u w'=>∃m' tv' sv' o,u= .tuple #[m',.nilIface]∧JB x o∧IsB M w' m' []∧St M w' tb o tv' sv'∧Evo M w w':=by
  have hpos:=encP_pos hE0
  refine does2 Tryz.func12 rfl rfl rfl ?_
  have he:Evo (M) w w:=Evo.refl w
  refine WC.seq<|WC.region ?_
  refine WL.q rfl (r_assign rfl) ?_
  refine WL.q rfl (r_assign rfl) ?_
  refine WL.nil ?_
  refine WC.seq<|WC.region ?_
  refine WL.q rfl (r_assign rfl) ?_
  refine WL.nil ?_
  refine WC.seq<|WC.region ?_
  refine WL.q rfl (r_assign rfl) ?_
  refine WL.nil ?_
  refine WC.seq<|WC.region ?_
  refine WL.q rfl (r_assign rfl) ?_
  refine WL.nil ?_
  refine WC.seq<|WC.region ?_
  refine WL.q rfl (r_move rfl) ?_
  refine WL.q rfl (r_assertI (show impT Tryz.prog 66 47=true from by kernel_rfl) rfl) ?_
  refine WL.q rfl (r_assign rfl) ?_
  refine WL.nil ?_
  refine WC.seq<|WC.block ?_
  refine WC.loop2 (ι:=(Nat×Value×Value)) [(4,_),(5,_),(7,_)] (fun a=>[(1,a.2.1),(6,a.2.2),(8,.nilIface)]) (fun a wi=>(∃tv l rest,IsB M wi a.2.1 rest∧St M wi tb l tv a.2.2∧((a.1=0∧rest=bs∧l=[])∨(a.1=1∧rest=[]∧JB x l)))∧Evo M w wi) (fun a=>1-a.1) (0,msg,.slice none 0 0) (.cons rfl (.cons rfl (.cons rfl .nil))) (.cons rfl (.cons rfl (.cons rfl .nil))) (⟨⟨_,_,_,hI,hS,.inl ⟨rfl,rfl,rfl⟩⟩,Evo.refl _⟩) ?_
  intro a wi1 hh;obtain⟨hQ,hE⟩:=hh
  obtain⟨k,mv,sv2⟩:=a
  dsimp only at hQ⊢
  obtain⟨tv2,l2,rest,hI4,hS4,hc⟩:=hQ
  have hI3:=hI4
  obtain⟨pm,cm,rfl,_,_⟩:=hI3
  rcases hc with⟨rfl,rfl,rfl⟩|⟨rfl,rfl,qj⟩
  · have hT:=Since.mk hE
    have hI2:IsB M wi1 (.slice pm rest.length cm) (rest++[]):=by rw[List.append_nil];exact hI4
    refine WC.seq<|WC.seq<|WC.region ?_
    refine WL.q rfl (r_move rfl) ?_
    refine WL.q rfl (r_len sl_27 rfl) ?_
    refine WL.q rfl (r_cmp (r_gtr rfl rfl) (decide_eq_true (by(omega)))) ?_
    refine WL.q rfl (r_move rfl) ?_
    refine WL.qg rfl rfl rfl rfl (r_move rfl) ?_
    refine WL.qg rfl rfl rfl rfl (r_ifeqNil ift_44 rfl) ?_
    refine WL.q rfl (r_pick rfl rfl rfl) ?_
    refine WL.nil ?_
    refine WC.condT rfl ?_
    refine WC.skip ?_
    refine WC.block ?_
    refine WC.region ?_
    refine WL.q rfl (r_move rfl) ?_
    refine WL.q rfl (r_move rfl) ?_
    refine WL.q rfl (r_move rfl) ?_
    refine WL.l rfl (l_do body_24 rfl ((wnss x L 0 rest hF hJ hN hE0 (by omega) (by omega)) _ _ _ _ _ _ _ _ hS4 hI2 (by simp;omega))) fun v1 w1 hh=>?_
    obtain⟨m2,tv5,sv5,o5,rfl,qo,hI2,hS,e1⟩:=hh
    have ns1:wi1.heap.size≤w1.heap.size:=e1.size
    refine WL.q rfl (r_move rfl) ?_
    refine WL.q rfl (r_extract rfl rfl) ?_
    refine WL.q rfl (r_extract rfl rfl) ?_
    refine WL.q rfl (r_extract rfl rfl) ?_
    refine WL.q rfl (r_assign rfl) ?_
    refine WL.q rfl (r_assign rfl) ?_
    refine WL.q rfl (r_assign rfl) ?_
    refine WL.nil ?_
    replace hT:=hT.mono e1
    exact⟨(1,m2,sv5),(.cons rfl (.cons rfl (.cons rfl .nil))),(.cons rfl (.cons rfl (.cons rfl .nil))),⟨⟨_,_,_,hI2,hS,.inr ⟨rfl,rfl,by simpa using qo⟩⟩,hT.evo⟩,(by dsimp only;omega)⟩
  · skip
    refine WC.seq<|WC.seq<|WC.region ?_
    refine WL.q rfl (r_move rfl) ?_
    refine WL.q rfl (r_len sl_27 rfl) ?_
    refine WL.q rfl (r_cmp (r_gtr rfl rfl) (decide_eq_false (by(decide)))) ?_
    refine WL.q rfl (r_move rfl) ?_
    refine WL.sk rfl rfl rfl rfl rfl ?_
    refine WL.sk rfl rfl rfl rfl rfl ?_
    refine WL.q rfl (r_pick rfl rfl rfl) ?_
    refine WL.nil ?_
    refine WC.condF rfl ?_
    refine WC.exit ?_
    refine WC.seq<|WC.region ?_
    refine WL.q rfl (r_move rfl) ?_
    refine WL.q rfl (r_move rfl) ?_
    refine WL.q rfl (r_assign rfl) ?_
    refine WL.q rfl (r_assign rfl) ?_
    refine WL.nil ?_
    refine WC.ret ?_
    replace he:=he.then hE
    exact fin2 rfl rfl ⟨_,_,_,_,rfl,qj,hI4,hS4,he⟩
theorem ToJSON_ok{A:Nat→Prop}{w:World}{v:Value}{x:Pk}{L:Int}{bs:List UInt8}(hI:IsB A w v bs)(hU:UT w)(hT:PT w)(hF:Fits L x)(hL:L≤1000)(hJ:JOK x)(hN:N64 x)(hE0:EncP x bs)(hv:pvol x≤1000000000):
    Does Tryz.prog 5 [v] w fun r w'=>∃o p c,r= .tuple #[str o,.slice p 0 c,.bool true]∧JB x o∧Ext w w':=by
  have hbl:=encP_len hE0
  have h7:=hT.lt
  refine does3 Tryz.func5 rfl rfl rfl ?_
  have he:Evo (fun b=>b<w.heap.size) w w:=Evo.refl w
  refine WC.seq<|WC.region ?_
  refine WL.q rfl (r_assign rfl) ?_
  refine WL.q rfl (r_assign rfl) ?_
  refine WL.q rfl (r_assign rfl) ?_
  refine WL.nil ?_
  refine WC.seq<|WC.region ?_
  have hs1:=he.size
  refine WL.l rfl (l_alloc zt_42 rfl) fun _ w1 hh=>?_
  obtain⟨rfl,hb1,e1⟩:=hh
  have nx1:=hb1.lt
  have ns1:w.heap.size≤w1.heap.size:=e1.size
  refine WL.nil ?_
  refine WC.seq<|WC.region ?_
  refine WL.q rfl (r_mkIface conc_47 rfl) ?_
  refine WL.q rfl (r_move rfl) ?_
  replace hI:=hI.mono e1
  refine WL.l rfl (l_do body_13 rfl (copied_ok hI (by omega))) fun v2 w2 hh=>?_
  obtain⟨⟨N,qN,hO⟩,e2⟩:=hh
  have qol:=hO.lt
  have ns2:w1.heap.size≤w2.heap.size:=e2.size
  replace hU:=(hU.mono e1).mono e2
  replace hT:=(hT.mono e1).mono e2
  replace hb1:=hb1.mono e2
  refine WL.l rfl (l_do body_12 rfl (UJ_ok (M:=fun b=>b≠w.heap.size∧b<w2.heap.size) ⟨⟨hb1,Own.nil _ _ _ _,by simp[Value.ownBlock]⟩,⟨_,_,Own.nil _ _ _ _⟩,by simp[Value.ownBlock],by simp[Value.ownBlock],fun b hb=>⟨hb.1,by simp[Value.ownBlock],by simp[Value.ownBlock]⟩,fun b hb=>hb.2,⟨by omega,by omega⟩,⟨by omega,by omega⟩,⟨by omega,by omega⟩,hU,hT⟩ (Own.toB hO fun b h1 h2=>⟨by omega,by omega⟩) hF hL hJ hN hE0 hv)) fun v3 w3 hh=>?_
  obtain⟨m',tv',sv',o,rfl,qo,hI2,qS2,e3⟩:=hh
  have hB:=Own.toB (A:=fun _=>True) qS2.tx.own
  have hK:=qS2.tx.blk
  have ns3:w2.heap.size≤w3.heap.size:=e3.size
  refine WL.q rfl (r_move rfl) ?_
  refine WL.q rfl (r_extract rfl rfl) ?_
  refine WL.q rfl (r_extract rfl rfl) ?_
  refine WL.q rfl (r_assign rfl) ?_
  refine WL.q rfl (r_assign rfl) ?_
  refine WL.nil ?_
  refine WC.seq<|WC.seq<|WC.region ?_
  refine WL.q rfl (r_move rfl) ?_
  refine WL.q rfl (r_ifneNil ift_44 rfl) ?_
  refine WL.nil ?_
  refine WC.condF rfl ?_
  refine WC.skip ?_
  refine WC.seq<|WC.regionD [(true,0),(true,1),(true,2),(true,3),(false,4),(true,5),(true,6),(true,7)] (Ext _) mixed (by kernel_rfl) (Ext.drew _) ?_
  have nd1w3:w3.drew.heap.size=w3.heap.size:=rfl
  refine WD.q rfl (fun _ hS=>r_fieldAddr rfl fo_42_0) ?_
  refine WD.q rfl (fun _ hS=>r_load one_27 rfl hS (hK.get rfl)) ?_
  refine WD.q rfl (fun _ hS=>r_b2s (show b2sT Tryz.prog 27 9=true from by kernel_rfl) rfl hS hB) ?_
  refine WD.q rfl (fun _ hS=>r_move rfl) ?_
  refine WD.l rfl rfl (l_do body_13 rfl (copied_ok (hI2.mono (Ext.drew _)) (by simp))) fun v4 w4 hh=>?_
  obtain⟨⟨N2,qN2,hO2⟩,e4⟩:=hh
  have ns4:w3.heap.size≤w4.heap.size:=e4.size
  refine⟨((Evo.drew _).then e4),?_⟩
  refine WD.q rfl (fun _ hS=>r_assign rfl) ?_
  refine WD.q rfl (fun _ hS=>r_assign rfl) ?_
  refine WD.q rfl (fun _ hS=>r_assign rfl) ?_
  refine WD.nil ?_
  refine WC.ret ?_
  obtain⟨p5,c5,qv5,_,_⟩:=hO2.form
  have qr:v4= .slice p5 0 c5:=qv5
  replace he:=((((he.then e1).then e2).then e3).then (Ext.drew _)).then e4
  exact fin3 rfl rfl rfl ⟨o,p5,c5,by rw[qr],qo,he.weaken fun b hb _=>hb⟩
end Go.Proofs.LL
