/- Contracts of functions and own laws. Conditions: those that each theorem states. -/
import Derived.Test.YtbkhpjeaacoobaaGreatDoorA26
set_option linter.all false
set_option maxRecDepth 20000
namespace Go.Proofs.LL
open Go Go.Proofs Go.RowKit
theorem body_172:bodyB Tryz.prog 172=true:=by kernel_rfl
theorem body_173:bodyB Tryz.prog 173=true:=by kernel_rfl
theorem body_87:bodyB Tryz.prog 87=true:=by kernel_rfl
theorem run_nilAhead{P:Program}{t:TypeId}{p:Option Addr}{name:String}{f:FuncId}(h:mthT P t name=some f)(hp:ptrT P t=true)(hn:p≠none)(n:Nat)(w:World):(Go.nilAhead (n+1) t (.pointer p) name).run P w= .ok (some false) w:=by
  unfold mthT at h
  split at h
  · rename_i i hi
    split at h
    · rename_i m hm
      unfold Go.nilAhead
      split at h
      · rename_i g e hp hf hu
        simp[typeInfo,hi,hm,hp,hf,Go.followBlind]
      · cases h
      · rename_i g d hnp hp' hf hu
        exfalso
        unfold ptrT at hp
        rw[hu]at hp
        cases d<;>simp at hp hnp
      · cases h
    · cases h
  · cases h
section
variable {P:Program} {ρ:Fr} {w w0:World} {ty:TypeId} {x y s:Operand}
theorem r_makeFn{g:Fn}{fs cs:Array Operand}{l m:List Value}(h1:ovs ρ fs.toList=some l)(h2:ovs ρ cs.toList=some m):RunOp P (.makeFunc g fs cs) ty ρ w (.func g l.toArray m.toArray):=by
  intro N D ac dst pos af g ha
  simp[execOp,Instr.makeFunc,map_evalA ha _ _ h1,map_evalA ha _ _ h2]
theorem r_nilM{t:TypeId}{a:Addr}{name:String}{f:FuncId}(h:mthT P t name=some f)(hp:ptrT P t=true)(hx:ov ρ x=some (.func (.method name) [.iface t (.pointer (some a))].toArray ([]:List Value).toArray)):RunOp P (.nilCheck x) ty ρ w (.func (.method name) [.iface t (.pointer (some a))].toArray ([]:List Value).toArray):=by
  intro N D ac dst pos af g ha
  have hd:P.types.size+Made.depth=(P.types.size+Made.depth-1)+1:=by
    have:0<Made.depth:=by decide
    omega
  have hn:=run_nilAhead (P:=P) h hp (p:=some a) (by simp) (P.types.size+Made.depth-1) w
  rw[← hd]at hn
  simp[execOp,ha.ov hx,hn]
end
def hexT:List UInt8:=[48,49,50,51,52,53,54,55,56,57,97,98,99,100,101,102]
theorem hex_get{d:Nat}(h:d<16):(⟨hexT.toArray⟩:ByteArray)[d]?=some (hx d):=by
  have:∀d:Fin 16,(⟨hexT.toArray⟩:ByteArray)[d.val]?=some (hx d.val):=by decide+kernel
  exact this ⟨d,h⟩
theorem shr4(b:UInt8):(b.toNat:Int).fdiv (2^(min (4:Int).toNat IntKind.u8.bits))=((b.toNat / 16:Nat):Int):=by
  rw[show(2:Int)^(min (4:Int).toNat IntKind.u8.bits)=16 by decide,Int.fdiv_eq_ediv_of_nonneg _ (by decide)]
  omega
theorem and15(b:UInt8):bits .and .u8 (b.toNat:Int) 15=((b.toNat%16:Nat):Int):=by
  have:=and_u8 4 (by decide) (z:=(b.toNat:Int)) (by omega) (by have:=UInt8.toNat_lt b;omega)
  rw[show(15:Int)=2^4-1 by decide,this]
  omega
theorem and15r{c b:Nat}(h:b+8064=c)(hb:b=168∨b=169):bits .and .i32 (c:Int) 15=((b-160:Nat):Int):=by
  rcases hb with rfl|rfl<;>subst h<;>decide
theorem take_snoc{t r:List UInt8}{k:Nat}{b:UInt8}(h:t.drop k=b::r):t.take (k+1)=t.take k++[b]:=by
  have hl:k<t.length:=(drop_c h).1
  rw[← List.take_append_getElem hl]
  rw[List.drop_eq_getElem_cons hl]at h
  injection h with h1 _
  rw[h1]
theorem take_split{t:List UInt8}{i j:Nat}(h:i≤j):t.take i++(t.take j).drop i=t.take j:=by
  rw[show t.take i=(t.take j).take i by rw[List.take_take,Nat.min_eq_left h]]
  exact List.take_append_drop ..
theorem take_add'(t:List UInt8)(i j:Nat):t.take (i+j)=t.take i++(t.drop i).take j:=List.take_add
theorem plain_app{t:List UInt8}{st k z:Nat}(h1:∀x∈(t.take k).drop st,plainB x)(hs:st≤k)(hk:k≤t.length)(h2:∀x∈(t.drop k).take z,plainB x):∀x∈(t.take (k+z)).drop st,plainB x:=by
  intro x hm
  rw[take_add',List.drop_append_of_le_length (by rw[List.length_take];omega)]at hm
  rcases List.mem_append.1 hm with h|h
  · exact h1 x h
  · exact h2 x h
def QS(M:Nat→Prop)(tb:Nat)(l t:List UInt8)(sv:Value)(st:Nat)(w:World):Prop:=∃q tv,Qt (t.take st) q∧St M w tb (l++34::q) tv sv
theorem rwq_ok{M:Nat→Prop}{w:World}{tb:Nat}{l t:List UInt8}{tv sv s:Value}(hS:St M w tb l tv sv)(hI:IsB M w s t)(hv:Lib.validD t=true)(hl:l.length+6 * t.length+20≤1000000000000)(ht:t.length≤1000000):
    Does Tryz.prog 59 [wr tb,s] w fun u w'=>∃n q tv',u= .tuple #[.int .i64 n,.nilIface]∧Qt t q∧St M w' tb (l++qt q) tv' sv∧Evo M w w':=by
  obtain⟨ps,cp,rfl,hcp,_⟩:=id hI
  refine does2 Tryz.func59 rfl rfl rfl ?_
  have he:Evo (M) w w:=Evo.refl w
  refine WC.seq<|WC.region ?_
  refine WL.q rfl (r_assign rfl) ?_
  refine WL.q rfl (r_assign rfl) ?_
  refine WL.nil ?_
  refine WC.seq<|WC.region ?_
  refine WL.q rfl (r_assign rfl) ?_
  refine WL.nil ?_
  refine WC.seq<|WC.region ?_
  refine WL.q rfl (r_move rfl) ?_
  refine WL.l rfl (l_invoke mWB body_173 rfl rfl (SByte_ok (c:=34) hS (by omega))) fun v1 w1 hh=>?_
  obtain⟨rfl,tv',hS,e1⟩:=hh
  have ns1:w.heap.size≤w1.heap.size:=e1.size
  refine WL.q rfl (r_assign rfl) ?_
  refine WL.nil ?_
  refine WC.seq<|WC.seq<|WC.region ?_
  refine WL.q rfl (r_move rfl) ?_
  refine WL.q rfl (r_ifneNil ift_44 rfl) ?_
  refine WL.nil ?_
  refine WC.condF rfl ?_
  refine WC.skip ?_
  refine WC.seq<|WC.region ?_
  refine WL.q rfl (r_move rfl) ?_
  refine WL.q rfl (r_addi rfl rfl rfl (by omega) (by omega)) ?_
  refine WL.q rfl (r_assign rfl) ?_
  refine WL.nil ?_
  refine WC.seq<|WC.region ?_
  refine WL.q rfl (r_assign rfl) ?_
  refine WL.nil ?_
  refine WC.seq<|WC.seq<|WC.region ?_
  refine WL.q rfl (r_assign rfl) ?_
  refine WL.nil ?_
  refine WC.block ?_
  have hQ:QS M tb l t sv 0 w1:=⟨[],_,.nil,hS⟩
  replace hI:=hI.mono e1
  replace he:=he.then e1
  refine WC.loop2 (ι:=(Nat×Nat×Nat×Nat)) [(0,_),(1,_)] (fun a=>[(4,.int .i64 (a.1:Int)),(5,.nilIface),(6,.int .i64 (a.2.1:Int)),(7,.int .i64 (a.2.2.1:Int)),(8,.int .i64 (a.2.2.2:Int))]) (fun a wi=>QS M tb l t sv a.2.2.1 wi∧(∀b∈(t.take a.2.2.2).drop a.2.2.1,plainB b)∧Lib.validD (t.drop a.2.2.2)=true∧a.2.2.1≤a.2.2.2∧a.2.2.2≤t.length∧a.1≤10+6 * a.2.2.1∧a.2.1≤1000000∧Evo M w1 wi) (fun a=>t.length-a.2.2.2) (1,0,0,0) (.cons rfl (.cons rfl .nil)) (.cons rfl (.cons rfl (.cons rfl (.cons rfl (.cons rfl .nil))))) (⟨hQ,by simp,hv,Nat.le_refl _,Nat.zero_le _,by decide,by decide,Evo.refl _⟩) ?_
  intro a wi1 hh;obtain⟨hQ,qP,qv,q1,q2,q3,q4,hE⟩:=hh
  obtain⟨n,nn,st,k⟩:=a
  dsimp only at hQ qP qv q1 q2 q3 q4⊢
  have hT:=Since.mk hE
  obtain⟨q,tv2,qQ,hS⟩:=hQ
  have hU:=Since.mk (Evo.refl (A:=M) wi1)
  have qql:=qQ.len
  rw[List.length_take]at qql
  rcases Nat.lt_or_ge k t.length with qk|qk
  · obtain⟨b,r,hd⟩:∃b r,t.drop k=b::r:=by
      rw[List.drop_eq_getElem_cons qk];exact⟨_,_,rfl⟩
    have qb:t[k]=b:=by rw[List.drop_eq_getElem_cons qk]at hd;injection hd
    have qlt:=UInt8.toNat_lt b
    have qne:t≠[]:=fun e=>by rw[e]at qk;simp at qk
    replace hI:=hI.mono hE
    obtain⟨b0,o0,c0,qe,qc0,qA0,hD0⟩:=hI.open (List.length_pos_iff.2 qne)
    simp only[Value.slice.injEq,true_and]at qe
    obtain⟨qe1,qe2⟩:=qe
    subst qe1
    have hc0:=hD0 k qk
    rw[qb]at hc0
    rcases Nat.lt_or_ge b.toNat 128 with hb|hb
    · have qvr:Lib.validD (t.drop (k+1))=true:=by rw[(drop_c hd).2.2];rw[hd,Lib.validD_cons b r hb]at qv;exact qv
      refine WC.seq<|WC.seq<|WC.region ?_
      refine WL.q rfl (r_move rfl) ?_
      refine WL.q rfl (r_move rfl) ?_
      refine WL.q rfl (r_len sl_27 rfl) ?_
      refine WL.q rfl (r_cmp (r_lss rfl rfl) (decide_eq_true (by(omega)))) ?_
      refine WL.nil ?_
      refine WC.condT rfl ?_
      refine WC.skip ?_
      refine WC.block ?_
      refine WC.seq<|WC.seq<|WC.region ?_
      refine WL.q rfl (r_move rfl) ?_
      refine WL.q rfl (r_move rfl) ?_
      refine WL.q rfl (r_idx1 sl_27 rfl rfl rfl (by first|omega|(simp;done)|(simp;omega))) ?_
      refine WL.q rfl (r_load one_5 rfl (Ext.refl _) hc0) ?_
      refine WL.q rfl (r_assign rfl) ?_
      refine WL.nil ?_
      refine WC.seq<|WC.region ?_
      refine WL.q rfl (r_move rfl) ?_
      refine WL.q rfl (r_cmp (r_lss rfl rfl) (decide_eq_true (by(omega)))) ?_
      refine WL.nil ?_
      refine WC.condT rfl ?_
      refine WC.seq<|WC.seq<|WC.region ?_
      refine WL.q rfl (r_move rfl) ?_
      refine WL.q rfl (r_leq rfl rfl) ?_
      refine WL.q rfl (r_move rfl) ?_
      refine WL.qc rfl rfl rfl rfl (fun hc=>r_move rfl) ?_
      refine WL.qc rfl rfl rfl rfl (fun hc=>r_neq (cnd_of hc) rfl) ?_
      refine WL.q rfl (r_and rfl rfl (fun h=>beq_iff_eq.2 h)) ?_
      refine WL.q rfl (r_move rfl) ?_
      refine WL.qc rfl rfl rfl rfl (fun hc=>r_move rfl) ?_
      refine WL.qc rfl rfl rfl rfl (fun hc=>r_neq (cnd_of hc) rfl) ?_
      refine WL.q rfl (r_and rfl rfl (fun h=>beq_iff_eq.2 h)) ?_
      refine WL.q rfl (r_move rfl) ?_
      refine WL.qc rfl rfl rfl rfl (fun hc=>r_move rfl) ?_
      refine WL.qc rfl rfl rfl rfl (fun hc=>r_neq (cnd_of hc) rfl) ?_
      refine WL.q rfl (r_and rfl rfl (fun h=>beq_iff_eq.2 h)) ?_
      refine WL.q rfl (r_move rfl) ?_
      refine WL.qc rfl rfl rfl rfl (fun hc=>r_move rfl) ?_
      refine WL.qc rfl rfl rfl rfl (fun hc=>r_neq (cnd_of hc) rfl) ?_
      refine WL.q rfl (r_and rfl rfl (fun h=>beq_iff_eq.2 h)) ?_
      refine WL.q rfl (r_move rfl) ?_
      refine WL.qc rfl rfl rfl rfl (fun hc=>r_move rfl) ?_
      refine WL.qc rfl rfl rfl rfl (fun hc=>r_neq (cnd_of hc) rfl) ?_
      refine WL.q rfl (r_and rfl rfl (fun h=>beq_iff_eq.2 h)) ?_
      refine WL.nil ?_
      refine WC.cond rfl ?_ ?_
      · intro hc
        refine WC.seq<|WC.region ?_
        refine WL.q rfl (r_move rfl) ?_
        refine WL.q rfl (r_addi rfl rfl rfl (by omega) (by omega)) ?_
        refine WL.q rfl (r_assign rfl) ?_
        refine WL.nil ?_
        refine WC.exit ?_
        simp only[Bool.and_eq_true,decide_eq_true_eq,Bool.not_eq_true',beq_eq_false_iff_ne,bne_iff_ne,ne_eq]at hc
        exact⟨(n,nn,st,k+1),(.cons rfl (.cons rfl .nil)),(.cons (lk_int rfl (by first|omega|(dsimp only;omega)|(dsimp only;done))) (.cons rfl (.cons (lk_int rfl (by first|omega|(dsimp only;omega)|(dsimp only;done))) (.cons (lk_int rfl (by first|omega|(dsimp only;omega)|(dsimp only;done))) (.cons (lk_int rfl (by first|omega|(dsimp only;omega)|(dsimp only;done))) .nil))))),⟨⟨q,_,qQ,hS⟩,plain_app qP q1 q2 (fun x hm=>by rw[hd]at hm;simp only[List.take_succ_cons,List.take_zero,List.mem_singleton]at hm;subst hm;exact .inr ⟨by omega,fun e=>absurd (congrArg UInt8.toNat e) (show¬x.toNat=92 by omega),fun e=>absurd (congrArg UInt8.toNat e) (show¬x.toNat=34 by omega)⟩),qvr,by dsimp only;omega,qk,q3,q4,hT.evo⟩,(by dsimp only;omega)⟩
      · intro hc
        refine WC.skip ?_
        refine WC.seq<|WC.seq<|WC.region ?_
        refine WL.q rfl (r_move rfl) ?_
        refine WL.q rfl (r_move rfl) ?_
        refine WL.q rfl (r_lss rfl rfl) ?_
        refine WL.nil ?_
        replace he:=he.then hE
        refine WC.thenJ (ι:=(Nat×Nat)) [(0,_),(1,_),(7,_),(8,_),(9,_)] (fun i=>[(4,.int .i64 (i.1:Int)),(5,.nilIface),(6,.int .i64 (i.2:Int))]) (fun i wi=>QS M tb l t sv k wi∧i.1≤10+6 * k∧i.2≤1000000∧Evo M wi1 wi) (.cons rfl (.cons rfl (.cons rfl (.cons rfl (.cons rfl .nil))))) ?_ ?_
        · have qcl:((t.take k).drop st).length=k-st:=by rw[List.length_drop,List.length_take];omega
          rcases Nat.lt_or_ge st k with qsk|qsk
          · skip
            refine WC.condT (congrArg (fun b=>some (Value.bool b)) (decide_eq_true (show(st:Int)<(k:Int) by omega))) ?_
            refine WC.seq<|WC.regionD [(true,0),(true,1),(true,2),(true,3),(true,4),(true,5),(true,6),(true,7),(false,8),(true,9),(true,10),(true,11),(true,12),(true,13)] (Evo M _) mixed (by kernel_rfl) (Evo.drew _) ?_
            have nd1wi1:wi1.drew.heap.size=wi1.heap.size:=rfl
            refine WD.q rfl (fun _ hS=>r_move rfl) ?_
            refine WD.q rfl (fun _ hS=>r_move rfl) ?_
            refine WD.q rfl (fun _ hS=>r_move rfl) ?_
            refine WD.q rfl (fun _ hS=>r_move rfl) ?_
            refine WD.q rfl (fun _ hS=>r_slice sl_27 rfl rfl rfl rfl rfl q1 (by omega)) ?_
            refine WD.q rfl (fun _ hS=>r_makeFn rfl rfl) ?_
            refine WD.q rfl (fun _ hS=>r_nilM mW (by kernel_rfl) rfl) ?_
            refine WD.q rfl (fun _ hS=>r_move rfl) ?_
            refine WD.l rfl rfl (l_invoke mW body_172 rfl rfl (SWrite_ok (hS.mono (Ext.drew _)) (by simp;omega) (by omega) (IsB.cutS (hI.mono (Ext.drew _)) q1 q2))) fun v2 w2 hh=>?_
            obtain⟨rfl,tv4,hS,e2⟩:=hh
            have ns2:wi1.heap.size≤w2.heap.size:=e2.size
            refine⟨((Evo.drew _).then e2),?_⟩
            refine WD.q rfl (fun _ hS=>r_move rfl) ?_
            refine WD.q rfl (fun _ hS=>r_extract rfl rfl) ?_
            refine WD.q rfl (fun _ hS=>r_extract rfl rfl) ?_
            refine WD.q rfl (fun _ hS=>r_assign rfl) ?_
            refine WD.q rfl (fun _ hS=>r_assign rfl) ?_
            refine WD.nil ?_
            refine WC.seq<|WC.region ?_
            refine WL.q rfl (r_move rfl) ?_
            refine WL.q rfl (r_move rfl) ?_
            refine WL.q rfl (r_addi rfl rfl rfl (by omega) (by omega)) ?_
            refine WL.q rfl (r_assign rfl) ?_
            refine WL.nil ?_
            refine WC.seq<|WC.region ?_
            refine WL.q rfl (r_move rfl) ?_
            refine WL.q rfl (r_ifneNil ift_44 rfl) ?_
            refine WL.nil ?_
            refine WC.condF rfl ?_
            refine WC.skip ?_
            have hS5:St M w2 tb (l++34::(q++(t.take k).drop st)) tv4 sv:=by rw[List.append_assoc,List.cons_append]at hS;exact hS
            replace hU:=(hU.mono (Ext.drew _)).mono e2
            have qU:=hU.evo
            exact⟨(n+(k-st),k-st),(.cons rfl (.cons rfl (.cons rfl (.cons rfl (.cons rfl .nil))))),(.cons (lk_int rfl (by first|omega|(dsimp only;omega)|(dsimp only;done))) (.cons rfl (.cons (lk_int rfl (by first|omega|(dsimp only;omega)|(dsimp only;done))) .nil))),⟨⟨_,_,by have:=qQ.append (Qt.plain qP);rwa [take_split q1]at this,hS5⟩,by dsimp only;omega,by dsimp only;omega,qU⟩⟩
          · skip
            refine WC.condF (congrArg (fun b=>some (Value.bool b)) (decide_eq_false (show¬(st:Int)<(k:Int) by omega))) ?_
            refine WC.skip ?_
            have qe:st=k:=by omega
            have qU:=hU.evo
            have qS:=hS
            exact⟨(n,nn),(.cons rfl (.cons rfl (.cons rfl (.cons rfl (.cons rfl .nil))))),(.cons (lk_int rfl (by first|omega|(dsimp only;omega)|(dsimp only;done))) (.cons rfl (.cons (lk_int rfl (by first|omega|(dsimp only;omega)|(dsimp only;done))) .nil))),⟨by rw[← qe];exact⟨_,_,qQ,qS⟩,by dsimp only;omega,by dsimp only;omega,qU⟩⟩
        · skip
          intro i wj hh;obtain⟨hQ,n1,n2,hE⟩:=hh
          obtain⟨n0,m0⟩:=i
          dsimp only at hQ n1 n2⊢
          obtain⟨q,tv5,qQ,hS⟩:=hQ
          have qql:=qQ.len
          rw[List.length_take]at qql
          have hu:b.toNat=92∨b.toNat=34∨b.toNat=10∨b.toNat=13∨b.toNat=9∨(b.toNat≠92∧b.toNat≠34∧b.toNat≠10∧b.toNat≠13∧b.toNat≠9):=by omega
          have q4l:([92,117,48,48]:List UInt8).length=4:=rfl
          rcases hu with qx|qx|qx|qx|qx|qx
          · obtain rfl:b=92:=UInt8.toNat_inj.1 qx
            refine WC.seq<|WC.seq<|WC.region ?_
            refine WL.q rfl (r_move rfl) ?_
            refine WL.nil ?_
            refine WC.block ?_
            refine WC.seq<|WC.seq<|WC.region ?_
            refine WL.q rfl (r_cmp (r_eql rfl rfl) (beqT (by(rfl)))) ?_
            refine WL.q rfl (r_assign rfl) ?_
            refine WL.nil ?_
            refine WC.condT rfl ?_
            refine WC.skip ?_
            refine WC.condT rfl ?_
            refine WC.seq<|WC.region ?_
            refine WL.q rfl (r_move rfl) ?_
            refine WL.l rfl (l_invoke mWB body_173 rfl rfl (SByte_ok (c:=92) hS (by simp;omega))) fun v2 w2 hh=>?_
            obtain⟨rfl,tv6,hS,e2⟩:=hh
            have ns2:wj.heap.size≤w2.heap.size:=e2.size
            refine WL.q rfl (r_assign rfl) ?_
            refine WL.nil ?_
            refine WC.seq<|WC.seq<|WC.region ?_
            refine WL.q rfl (r_move rfl) ?_
            refine WL.q rfl (r_ifneNil ift_44 rfl) ?_
            refine WL.nil ?_
            refine WC.condF rfl ?_
            refine WC.skip ?_
            refine WC.seq<|WC.region ?_
            refine WL.q rfl (r_move rfl) ?_
            refine WL.q rfl (r_addi rfl rfl rfl (by omega) (by omega)) ?_
            refine WL.q rfl (r_assign rfl) ?_
            refine WL.nil ?_
            refine WC.seq<|WC.region ?_
            refine WL.q rfl (r_move rfl) ?_
            refine WL.q rfl (r_move rfl) ?_
            refine WL.l rfl (l_invoke mWB body_173 rfl rfl (SByte_ok (c:=92) hS (by simp;omega))) fun v3 w3 hh=>?_
            obtain⟨rfl,tv7,hS,e3⟩:=hh
            have ns3:w2.heap.size≤w3.heap.size:=e3.size
            refine WL.q rfl (r_assign rfl) ?_
            refine WL.nil ?_
            refine WC.seq<|WC.seq<|WC.region ?_
            refine WL.q rfl (r_move rfl) ?_
            refine WL.q rfl (r_ifneNil ift_44 rfl) ?_
            refine WL.nil ?_
            refine WC.condF rfl ?_
            refine WC.skip ?_
            refine WC.region ?_
            refine WL.q rfl (r_move rfl) ?_
            refine WL.q rfl (r_addi rfl rfl rfl (by omega) (by omega)) ?_
            refine WL.q rfl (r_assign rfl) ?_
            refine WL.nil ?_
            refine WC.seq<|WC.region ?_
            refine WL.q rfl (r_move rfl) ?_
            refine WL.q rfl (r_addi rfl rfl rfl (by omega) (by omega)) ?_
            refine WL.q rfl (r_assign rfl) ?_
            refine WL.nil ?_
            refine WC.seq<|WC.region ?_
            refine WL.q rfl (r_move rfl) ?_
            refine WL.q rfl (r_assign rfl) ?_
            refine WL.nil ?_
            refine WC.exit ?_
            replace hT:=((hT.mono hE).mono e2).mono e3
            exact⟨(n0+1+1,m0,k+1,k+1),(.cons rfl (.cons rfl .nil)),(.cons (lk_int rfl (by first|omega|(dsimp only;omega)|(dsimp only;done))) (.cons rfl (.cons (lk_int rfl (by first|omega|(dsimp only;omega)|(dsimp only;done))) (.cons (lk_int rfl (by first|omega|(dsimp only;omega)|(dsimp only;done))) (.cons (lk_int rfl (by first|omega|(dsimp only;omega)|(dsimp only;done))) .nil))))),⟨⟨q++[92,92],_,by have:=qQ.append (.esc (.inl ⟨rfl,rfl⟩) .nil);rwa [← take_snoc hd]at this,by simpa using hS⟩,by simp,qvr,Nat.le_refl _,qk,by dsimp only;omega,by dsimp only;omega,hT.evo⟩,(by dsimp only;omega)⟩
          · obtain rfl:b=34:=UInt8.toNat_inj.1 qx
            refine WC.seq<|WC.seq<|WC.region ?_
            refine WL.q rfl (r_move rfl) ?_
            refine WL.nil ?_
            refine WC.block ?_
            refine WC.seq<|WC.seq<|WC.region ?_
            refine WL.q rfl (r_cmp (r_eql rfl rfl) (beqF (by(decide)))) ?_
            refine WL.q rfl (r_assign rfl) ?_
            refine WL.nil ?_
            refine WC.condF rfl ?_
            refine WC.region ?_
            refine WL.q rfl (r_cmp (r_eql rfl rfl) (beqT (by(rfl)))) ?_
            refine WL.q rfl (r_assign rfl) ?_
            refine WL.nil ?_
            refine WC.condT rfl ?_
            refine WC.seq<|WC.region ?_
            refine WL.q rfl (r_move rfl) ?_
            refine WL.l rfl (l_invoke mWB body_173 rfl rfl (SByte_ok (c:=92) hS (by simp;omega))) fun v2 w2 hh=>?_
            obtain⟨rfl,tv6,hS,e2⟩:=hh
            have ns2:wj.heap.size≤w2.heap.size:=e2.size
            refine WL.q rfl (r_assign rfl) ?_
            refine WL.nil ?_
            refine WC.seq<|WC.seq<|WC.region ?_
            refine WL.q rfl (r_move rfl) ?_
            refine WL.q rfl (r_ifneNil ift_44 rfl) ?_
            refine WL.nil ?_
            refine WC.condF rfl ?_
            refine WC.skip ?_
            refine WC.seq<|WC.region ?_
            refine WL.q rfl (r_move rfl) ?_
            refine WL.q rfl (r_addi rfl rfl rfl (by omega) (by omega)) ?_
            refine WL.q rfl (r_assign rfl) ?_
            refine WL.nil ?_
            refine WC.seq<|WC.region ?_
            refine WL.q rfl (r_move rfl) ?_
            refine WL.q rfl (r_move rfl) ?_
            refine WL.l rfl (l_invoke mWB body_173 rfl rfl (SByte_ok (c:=34) hS (by simp;omega))) fun v3 w3 hh=>?_
            obtain⟨rfl,tv7,hS,e3⟩:=hh
            have ns3:w2.heap.size≤w3.heap.size:=e3.size
            refine WL.q rfl (r_assign rfl) ?_
            refine WL.nil ?_
            refine WC.seq<|WC.seq<|WC.region ?_
            refine WL.q rfl (r_move rfl) ?_
            refine WL.q rfl (r_ifneNil ift_44 rfl) ?_
            refine WL.nil ?_
            refine WC.condF rfl ?_
            refine WC.skip ?_
            refine WC.region ?_
            refine WL.q rfl (r_move rfl) ?_
            refine WL.q rfl (r_addi rfl rfl rfl (by omega) (by omega)) ?_
            refine WL.q rfl (r_assign rfl) ?_
            refine WL.nil ?_
            refine WC.seq<|WC.region ?_
            refine WL.q rfl (r_move rfl) ?_
            refine WL.q rfl (r_addi rfl rfl rfl (by omega) (by omega)) ?_
            refine WL.q rfl (r_assign rfl) ?_
            refine WL.nil ?_
            refine WC.seq<|WC.region ?_
            refine WL.q rfl (r_move rfl) ?_
            refine WL.q rfl (r_assign rfl) ?_
            refine WL.nil ?_
            refine WC.exit ?_
            replace hT:=((hT.mono hE).mono e2).mono e3
            exact⟨(n0+1+1,m0,k+1,k+1),(.cons rfl (.cons rfl .nil)),(.cons (lk_int rfl (by first|omega|(dsimp only;omega)|(dsimp only;done))) (.cons rfl (.cons (lk_int rfl (by first|omega|(dsimp only;omega)|(dsimp only;done))) (.cons (lk_int rfl (by first|omega|(dsimp only;omega)|(dsimp only;done))) (.cons (lk_int rfl (by first|omega|(dsimp only;omega)|(dsimp only;done))) .nil))))),⟨⟨q++[92,34],_,by have:=qQ.append (.esc (.inr (.inl ⟨rfl,rfl⟩)) .nil);rwa [← take_snoc hd]at this,by simpa using hS⟩,by simp,qvr,Nat.le_refl _,qk,by dsimp only;omega,by dsimp only;omega,hT.evo⟩,(by dsimp only;omega)⟩
          · obtain rfl:b=10:=UInt8.toNat_inj.1 qx
            refine WC.seq<|WC.seq<|WC.region ?_
            refine WL.q rfl (r_move rfl) ?_
            refine WL.nil ?_
            refine WC.block ?_
            refine WC.seq<|WC.seq<|WC.region ?_
            refine WL.q rfl (r_cmp (r_eql rfl rfl) (beqF (by(decide)))) ?_
            refine WL.q rfl (r_assign rfl) ?_
            refine WL.nil ?_
            refine WC.condF rfl ?_
            refine WC.region ?_
            refine WL.q rfl (r_cmp (r_eql rfl rfl) (beqF (by(decide)))) ?_
            refine WL.q rfl (r_assign rfl) ?_
            refine WL.nil ?_
            refine WC.condF rfl ?_
            refine WC.seq<|WC.region ?_
            refine WL.q rfl (r_cmp (r_eql rfl rfl) (beqT (by(rfl)))) ?_
            refine WL.q rfl (r_assign rfl) ?_
            refine WL.nil ?_
            refine WC.condT rfl ?_
            refine WC.seq<|WC.region ?_
            refine WL.q rfl (r_move rfl) ?_
            refine WL.l rfl (l_invoke mWB body_173 rfl rfl (SByte_ok (c:=92) hS (by simp;omega))) fun v2 w2 hh=>?_
            obtain⟨rfl,tv6,hS,e2⟩:=hh
            have ns2:wj.heap.size≤w2.heap.size:=e2.size
            refine WL.q rfl (r_assign rfl) ?_
            refine WL.nil ?_
            refine WC.seq<|WC.seq<|WC.region ?_
            refine WL.q rfl (r_move rfl) ?_
            refine WL.q rfl (r_ifneNil ift_44 rfl) ?_
            refine WL.nil ?_
            refine WC.condF rfl ?_
            refine WC.skip ?_
            refine WC.seq<|WC.region ?_
            refine WL.q rfl (r_move rfl) ?_
            refine WL.q rfl (r_addi rfl rfl rfl (by omega) (by omega)) ?_
            refine WL.q rfl (r_assign rfl) ?_
            refine WL.nil ?_
            refine WC.seq<|WC.region ?_
            refine WL.q rfl (r_move rfl) ?_
            refine WL.l rfl (l_invoke mWB body_173 rfl rfl (SByte_ok (c:=110) hS (by simp;omega))) fun v3 w3 hh=>?_
            obtain⟨rfl,tv7,hS,e3⟩:=hh
            have ns3:w2.heap.size≤w3.heap.size:=e3.size
            refine WL.q rfl (r_assign rfl) ?_
            refine WL.nil ?_
            refine WC.seq<|WC.seq<|WC.region ?_
            refine WL.q rfl (r_move rfl) ?_
            refine WL.q rfl (r_ifneNil ift_44 rfl) ?_
            refine WL.nil ?_
            refine WC.condF rfl ?_
            refine WC.skip ?_
            refine WC.region ?_
            refine WL.q rfl (r_move rfl) ?_
            refine WL.q rfl (r_addi rfl rfl rfl (by omega) (by omega)) ?_
            refine WL.q rfl (r_assign rfl) ?_
            refine WL.nil ?_
            refine WC.seq<|WC.region ?_
            refine WL.q rfl (r_move rfl) ?_
            refine WL.q rfl (r_addi rfl rfl rfl (by omega) (by omega)) ?_
            refine WL.q rfl (r_assign rfl) ?_
            refine WL.nil ?_
            refine WC.seq<|WC.region ?_
            refine WL.q rfl (r_move rfl) ?_
            refine WL.q rfl (r_assign rfl) ?_
            refine WL.nil ?_
            refine WC.exit ?_
            replace hT:=((hT.mono hE).mono e2).mono e3
            exact⟨(n0+1+1,m0,k+1,k+1),(.cons rfl (.cons rfl .nil)),(.cons (lk_int rfl (by first|omega|(dsimp only;omega)|(dsimp only;done))) (.cons rfl (.cons (lk_int rfl (by first|omega|(dsimp only;omega)|(dsimp only;done))) (.cons (lk_int rfl (by first|omega|(dsimp only;omega)|(dsimp only;done))) (.cons (lk_int rfl (by first|omega|(dsimp only;omega)|(dsimp only;done))) .nil))))),⟨⟨q++[92,110],_,by have:=qQ.append (.esc (.inr (.inr (.inl ⟨rfl,rfl⟩))) .nil);rwa [← take_snoc hd]at this,by simpa using hS⟩,by simp,qvr,Nat.le_refl _,qk,by dsimp only;omega,by dsimp only;omega,hT.evo⟩,(by dsimp only;omega)⟩
          · obtain rfl:b=13:=UInt8.toNat_inj.1 qx
            refine WC.seq<|WC.seq<|WC.region ?_
            refine WL.q rfl (r_move rfl) ?_
            refine WL.nil ?_
            refine WC.block ?_
            refine WC.seq<|WC.seq<|WC.region ?_
            refine WL.q rfl (r_cmp (r_eql rfl rfl) (beqF (by(decide)))) ?_
            refine WL.q rfl (r_assign rfl) ?_
            refine WL.nil ?_
            refine WC.condF rfl ?_
            refine WC.region ?_
            refine WL.q rfl (r_cmp (r_eql rfl rfl) (beqF (by(decide)))) ?_
            refine WL.q rfl (r_assign rfl) ?_
            refine WL.nil ?_
            refine WC.condF rfl ?_
            refine WC.seq<|WC.region ?_
            refine WL.q rfl (r_cmp (r_eql rfl rfl) (beqF (by(decide)))) ?_
            refine WL.q rfl (r_assign rfl) ?_
            refine WL.nil ?_
            refine WC.condF rfl ?_
            refine WC.seq<|WC.region ?_
            refine WL.q rfl (r_cmp (r_eql rfl rfl) (beqT (by(rfl)))) ?_
            refine WL.q rfl (r_assign rfl) ?_
            refine WL.nil ?_
            refine WC.condT rfl ?_
            refine WC.seq<|WC.region ?_
            refine WL.q rfl (r_move rfl) ?_
            refine WL.l rfl (l_invoke mWB body_173 rfl rfl (SByte_ok (c:=92) hS (by simp;omega))) fun v2 w2 hh=>?_
            obtain⟨rfl,tv6,hS,e2⟩:=hh
            have ns2:wj.heap.size≤w2.heap.size:=e2.size
            refine WL.q rfl (r_assign rfl) ?_
            refine WL.nil ?_
            refine WC.seq<|WC.seq<|WC.region ?_
            refine WL.q rfl (r_move rfl) ?_
            refine WL.q rfl (r_ifneNil ift_44 rfl) ?_
            refine WL.nil ?_
            refine WC.condF rfl ?_
            refine WC.skip ?_
            refine WC.seq<|WC.region ?_
            refine WL.q rfl (r_move rfl) ?_
            refine WL.q rfl (r_addi rfl rfl rfl (by omega) (by omega)) ?_
            refine WL.q rfl (r_assign rfl) ?_
            refine WL.nil ?_
            refine WC.seq<|WC.region ?_
            refine WL.q rfl (r_move rfl) ?_
            refine WL.l rfl (l_invoke mWB body_173 rfl rfl (SByte_ok (c:=114) hS (by simp;omega))) fun v3 w3 hh=>?_
            obtain⟨rfl,tv7,hS,e3⟩:=hh
            have ns3:w2.heap.size≤w3.heap.size:=e3.size
            refine WL.q rfl (r_assign rfl) ?_
            refine WL.nil ?_
            refine WC.seq<|WC.seq<|WC.region ?_
            refine WL.q rfl (r_move rfl) ?_
            refine WL.q rfl (r_ifneNil ift_44 rfl) ?_
            refine WL.nil ?_
            refine WC.condF rfl ?_
            refine WC.skip ?_
            refine WC.region ?_
            refine WL.q rfl (r_move rfl) ?_
            refine WL.q rfl (r_addi rfl rfl rfl (by omega) (by omega)) ?_
            refine WL.q rfl (r_assign rfl) ?_
            refine WL.nil ?_
            refine WC.seq<|WC.region ?_
            refine WL.q rfl (r_move rfl) ?_
            refine WL.q rfl (r_addi rfl rfl rfl (by omega) (by omega)) ?_
            refine WL.q rfl (r_assign rfl) ?_
            refine WL.nil ?_
            refine WC.seq<|WC.region ?_
            refine WL.q rfl (r_move rfl) ?_
            refine WL.q rfl (r_assign rfl) ?_
            refine WL.nil ?_
            refine WC.exit ?_
            replace hT:=((hT.mono hE).mono e2).mono e3
            exact⟨(n0+1+1,m0,k+1,k+1),(.cons rfl (.cons rfl .nil)),(.cons (lk_int rfl (by first|omega|(dsimp only;omega)|(dsimp only;done))) (.cons rfl (.cons (lk_int rfl (by first|omega|(dsimp only;omega)|(dsimp only;done))) (.cons (lk_int rfl (by first|omega|(dsimp only;omega)|(dsimp only;done))) (.cons (lk_int rfl (by first|omega|(dsimp only;omega)|(dsimp only;done))) .nil))))),⟨⟨q++[92,114],_,by have:=qQ.append (.esc (.inr (.inr (.inr (.inl ⟨rfl,rfl⟩)))) .nil);rwa [← take_snoc hd]at this,by simpa using hS⟩,by simp,qvr,Nat.le_refl _,qk,by dsimp only;omega,by dsimp only;omega,hT.evo⟩,(by dsimp only;omega)⟩
          · obtain rfl:b=9:=UInt8.toNat_inj.1 qx
            refine WC.seq<|WC.seq<|WC.region ?_
            refine WL.q rfl (r_move rfl) ?_
            refine WL.nil ?_
            refine WC.block ?_
            refine WC.seq<|WC.seq<|WC.region ?_
            refine WL.q rfl (r_cmp (r_eql rfl rfl) (beqF (by(decide)))) ?_
            refine WL.q rfl (r_assign rfl) ?_
            refine WL.nil ?_
            refine WC.condF rfl ?_
            refine WC.region ?_
            refine WL.q rfl (r_cmp (r_eql rfl rfl) (beqF (by(decide)))) ?_
            refine WL.q rfl (r_assign rfl) ?_
            refine WL.nil ?_
            refine WC.condF rfl ?_
            refine WC.seq<|WC.region ?_
            refine WL.q rfl (r_cmp (r_eql rfl rfl) (beqF (by(decide)))) ?_
            refine WL.q rfl (r_assign rfl) ?_
            refine WL.nil ?_
            refine WC.condF rfl ?_
            refine WC.seq<|WC.region ?_
            refine WL.q rfl (r_cmp (r_eql rfl rfl) (beqF (by(decide)))) ?_
            refine WL.q rfl (r_assign rfl) ?_
            refine WL.nil ?_
            refine WC.condF rfl ?_
            refine WC.seq<|WC.region ?_
            refine WL.q rfl (r_cmp (r_eql rfl rfl) (beqT (by(rfl)))) ?_
            refine WL.q rfl (r_assign rfl) ?_
            refine WL.nil ?_
            refine WC.condT rfl ?_
            refine WC.seq<|WC.region ?_
            refine WL.q rfl (r_move rfl) ?_
            refine WL.l rfl (l_invoke mWB body_173 rfl rfl (SByte_ok (c:=92) hS (by simp;omega))) fun v2 w2 hh=>?_
            obtain⟨rfl,tv6,hS,e2⟩:=hh
            have ns2:wj.heap.size≤w2.heap.size:=e2.size
            refine WL.q rfl (r_assign rfl) ?_
            refine WL.nil ?_
            refine WC.seq<|WC.seq<|WC.region ?_
            refine WL.q rfl (r_move rfl) ?_
            refine WL.q rfl (r_ifneNil ift_44 rfl) ?_
            refine WL.nil ?_
            refine WC.condF rfl ?_
            refine WC.skip ?_
            refine WC.seq<|WC.region ?_
            refine WL.q rfl (r_move rfl) ?_
            refine WL.q rfl (r_addi rfl rfl rfl (by omega) (by omega)) ?_
            refine WL.q rfl (r_assign rfl) ?_
            refine WL.nil ?_
            refine WC.seq<|WC.region ?_
            refine WL.q rfl (r_move rfl) ?_
            refine WL.l rfl (l_invoke mWB body_173 rfl rfl (SByte_ok (c:=116) hS (by simp;omega))) fun v3 w3 hh=>?_
            obtain⟨rfl,tv7,hS,e3⟩:=hh
            have ns3:w2.heap.size≤w3.heap.size:=e3.size
            refine WL.q rfl (r_assign rfl) ?_
            refine WL.nil ?_
            refine WC.seq<|WC.seq<|WC.region ?_
            refine WL.q rfl (r_move rfl) ?_
            refine WL.q rfl (r_ifneNil ift_44 rfl) ?_
            refine WL.nil ?_
            refine WC.condF rfl ?_
            refine WC.skip ?_
            refine WC.region ?_
            refine WL.q rfl (r_move rfl) ?_
            refine WL.q rfl (r_addi rfl rfl rfl (by omega) (by omega)) ?_
            refine WL.q rfl (r_assign rfl) ?_
            refine WL.nil ?_
            refine WC.seq<|WC.region ?_
            refine WL.q rfl (r_move rfl) ?_
            refine WL.q rfl (r_addi rfl rfl rfl (by omega) (by omega)) ?_
            refine WL.q rfl (r_assign rfl) ?_
            refine WL.nil ?_
            refine WC.seq<|WC.region ?_
            refine WL.q rfl (r_move rfl) ?_
            refine WL.q rfl (r_assign rfl) ?_
            refine WL.nil ?_
            refine WC.exit ?_
            replace hT:=((hT.mono hE).mono e2).mono e3
            exact⟨(n0+1+1,m0,k+1,k+1),(.cons rfl (.cons rfl .nil)),(.cons (lk_int rfl (by first|omega|(dsimp only;omega)|(dsimp only;done))) (.cons rfl (.cons (lk_int rfl (by first|omega|(dsimp only;omega)|(dsimp only;done))) (.cons (lk_int rfl (by first|omega|(dsimp only;omega)|(dsimp only;done))) (.cons (lk_int rfl (by first|omega|(dsimp only;omega)|(dsimp only;done))) .nil))))),⟨⟨q++[92,116],_,by have:=qQ.append (.esc (.inr (.inr (.inr (.inr ⟨rfl,rfl⟩)))) .nil);rwa [← take_snoc hd]at this,by simpa using hS⟩,by simp,qvr,Nat.le_refl _,qk,by dsimp only;omega,by dsimp only;omega,hT.evo⟩,(by dsimp only;omega)⟩
          · skip
            refine WC.seq<|WC.seq<|WC.region ?_
            refine WL.q rfl (r_move rfl) ?_
            refine WL.nil ?_
            refine WC.block ?_
            refine WC.seq<|WC.seq<|WC.region ?_
            refine WL.q rfl (r_cmp (r_eql rfl rfl) (beqF (by omega))) ?_
            refine WL.q rfl (r_assign rfl) ?_
            refine WL.nil ?_
            refine WC.condF rfl ?_
            refine WC.region ?_
            refine WL.q rfl (r_cmp (r_eql rfl rfl) (beqF (by omega))) ?_
            refine WL.q rfl (r_assign rfl) ?_
            refine WL.nil ?_
            refine WC.condF rfl ?_
            refine WC.seq<|WC.region ?_
            refine WL.q rfl (r_cmp (r_eql rfl rfl) (beqF (by omega))) ?_
            refine WL.q rfl (r_assign rfl) ?_
            refine WL.nil ?_
            refine WC.condF rfl ?_
            refine WC.seq<|WC.region ?_
            refine WL.q rfl (r_cmp (r_eql rfl rfl) (beqF (by omega))) ?_
            refine WL.q rfl (r_assign rfl) ?_
            refine WL.nil ?_
            refine WC.condF rfl ?_
            refine WC.seq<|WC.region ?_
            refine WL.q rfl (r_cmp (r_eql rfl rfl) (beqF (by omega))) ?_
            refine WL.q rfl (r_assign rfl) ?_
            refine WL.nil ?_
            refine WC.condF rfl ?_
            refine WC.seq<|WC.region ?_
            refine WL.q rfl (r_move rfl) ?_
            refine WL.l rfl (l_invoke mWS body_174 rfl rfl (SStr_ok (s:=[92,117,48,48]) hS (by simp;omega) (by decide))) fun v2 w2 hh=>?_
            obtain⟨rfl,tv6,hS,e2⟩:=hh
            have ns2:wj.heap.size≤w2.heap.size:=e2.size
            refine WL.q rfl (r_move rfl) ?_
            refine WL.q rfl (r_extract rfl rfl) ?_
            refine WL.q rfl (r_extract rfl rfl) ?_
            refine WL.q rfl (r_assign rfl) ?_
            refine WL.q rfl (r_assign rfl) ?_
            refine WL.nil ?_
            refine WC.seq<|WC.region ?_
            refine WL.q rfl (r_move rfl) ?_
            refine WL.q rfl (r_move rfl) ?_
            refine WL.q rfl (r_addi rfl rfl rfl (by omega) (by omega)) ?_
            refine WL.q rfl (r_assign rfl) ?_
            refine WL.nil ?_
            refine WC.seq<|WC.seq<|WC.region ?_
            refine WL.q rfl (r_move rfl) ?_
            refine WL.q rfl (r_ifneNil ift_44 rfl) ?_
            refine WL.nil ?_
            refine WC.condF rfl ?_
            refine WC.skip ?_
            replace hI:=(hI.mono hE).mono e2
            replace hT:=(hT.mono hE).mono e2
            replace hU:=(hU.mono hE).mono e2
            refine WC.seq<|WC.regionD [(true,0),(true,1),(true,2),(true,3),(true,4),(true,5),(true,6),(false,7),(true,8)] (Evo M _) mixed (by kernel_rfl) (Evo.drew _) ?_
            have nd1w2:w2.drew.heap.size=w2.heap.size:=rfl
            refine WD.q rfl (fun _ hS=>r_move rfl) ?_
            refine WD.q rfl (fun _ hS=>r_move rfl) ?_
            refine WD.q rfl (fun _ hS=>r_as (r_shr rfl rfl (by decide)) (shr4 b)) ?_
            refine WD.q rfl (fun _ hS=>r_idxs str_9 rfl rfl rfl (hex_get (show b.toNat / 16<16 by omega))) ?_
            refine WD.q rfl (fun _ hS=>r_makeFn rfl rfl) ?_
            refine WD.q rfl (fun _ hS=>r_nilM mWB (by kernel_rfl) rfl) ?_
            refine WD.q rfl (fun _ hS=>r_move rfl) ?_
            refine WD.l rfl rfl (l_invoke mWB body_173 rfl rfl (SByte_ok (c:=hx (b.toNat / 16)) (hS.mono (Ext.drew _)) (by simp;omega))) fun v3 w3 hh=>?_
            obtain⟨rfl,tv7,hS,e3⟩:=hh
            have ns3:w2.heap.size≤w3.heap.size:=e3.size
            refine⟨((Evo.drew _).then e3),?_⟩
            refine WD.q rfl (fun _ hS=>r_assign rfl) ?_
            refine WD.nil ?_
            refine WC.seq<|WC.seq<|WC.region ?_
            refine WL.q rfl (r_move rfl) ?_
            refine WL.q rfl (r_ifneNil ift_44 rfl) ?_
            refine WL.nil ?_
            refine WC.condF rfl ?_
            refine WC.skip ?_
            refine WC.seq<|WC.region ?_
            refine WL.q rfl (r_move rfl) ?_
            refine WL.q rfl (r_addi rfl rfl rfl (by omega) (by omega)) ?_
            refine WL.q rfl (r_assign rfl) ?_
            refine WL.nil ?_
            replace hI:=(hI.mono (Ext.drew _)).mono e3
            replace hT:=(hT.mono (Ext.drew _)).mono e3
            replace hU:=(hU.mono (Ext.drew _)).mono e3
            refine WC.seq<|WC.regionD [(true,0),(true,1),(true,2),(true,3),(true,4),(true,5),(true,6),(false,7),(true,8)] (Evo M _) mixed (by kernel_rfl) (Evo.drew _) ?_
            have nd1w3:w3.drew.heap.size=w3.heap.size:=rfl
            refine WD.q rfl (fun _ hS=>r_move rfl) ?_
            refine WD.q rfl (fun _ hS=>r_move rfl) ?_
            refine WD.q rfl (fun _ hS=>r_as (r_bitand rfl rfl) (and15 b)) ?_
            refine WD.q rfl (fun _ hS=>r_idxs str_9 rfl rfl rfl (hex_get (show b.toNat%16<16 by omega))) ?_
            refine WD.q rfl (fun _ hS=>r_makeFn rfl rfl) ?_
            refine WD.q rfl (fun _ hS=>r_nilM mWB (by kernel_rfl) rfl) ?_
            refine WD.q rfl (fun _ hS=>r_move rfl) ?_
            refine WD.l rfl rfl (l_invoke mWB body_173 rfl rfl (SByte_ok (c:=hx (b.toNat.mod 16)) (hS.mono (Ext.drew _)) (by simp;omega))) fun v4 w4 hh=>?_
            obtain⟨rfl,tv8,hS,e4⟩:=hh
            have ns4:w3.heap.size≤w4.heap.size:=e4.size
            refine⟨((Evo.drew _).then e4),?_⟩
            refine WD.q rfl (fun _ hS=>r_assign rfl) ?_
            refine WD.nil ?_
            refine WC.seq<|WC.seq<|WC.region ?_
            refine WL.q rfl (r_move rfl) ?_
            refine WL.q rfl (r_ifneNil ift_44 rfl) ?_
            refine WL.nil ?_
            refine WC.condF rfl ?_
            refine WC.skip ?_
            refine WC.region ?_
            refine WL.q rfl (r_move rfl) ?_
            refine WL.q rfl (r_addi rfl rfl rfl (by omega) (by omega)) ?_
            refine WL.q rfl (r_assign rfl) ?_
            refine WL.nil ?_
            refine WC.seq<|WC.region ?_
            refine WL.q rfl (r_move rfl) ?_
            refine WL.q rfl (r_addi rfl rfl rfl (by omega) (by omega)) ?_
            refine WL.q rfl (r_assign rfl) ?_
            refine WL.nil ?_
            refine WC.seq<|WC.region ?_
            refine WL.q rfl (r_move rfl) ?_
            refine WL.q rfl (r_assign rfl) ?_
            refine WL.nil ?_
            refine WC.exit ?_
            replace hT:=(hT.mono (Ext.drew _)).mono e4
            exact⟨(n0+4+1+1,4,k+1,k+1),(.cons rfl (.cons rfl .nil)),(.cons (lk_int rfl (by first|omega|(dsimp only;omega)|(dsimp only;done))) (.cons rfl (.cons (lk_int rfl (by first|omega|(dsimp only;omega)|(dsimp only;done))) (.cons (lk_int rfl (by first|omega|(dsimp only;omega)|(dsimp only;done))) (.cons (lk_int rfl (by first|omega|(dsimp only;omega)|(dsimp only;done))) .nil))))),⟨⟨q++[92,117,48,48,hx (b.toNat / 16),hx (b.toNat.mod 16)],_,by have:=qQ.append (.hex hb .nil);rwa [← take_snoc hd]at this,by simpa using hS⟩,by simp,qvr,Nat.le_refl _,qk,by dsimp only;omega,by dsimp only;omega,hT.evo⟩,(by dsimp only;omega)⟩
    · have qg0:128≤((t.drop k).getD 0 0).toNat:=by rw[hd];exact hb
      obtain⟨c,z,qdec,qcm,qcz,z2,z4,zl,qhi,qvz,qsep⟩:=dec_hi qv (by rw[hd];simp) qg0
      rw[List.length_drop]at zl
      have qpl:∀x∈(t.drop k).take z,plainB x:=fun x hm=> .inl (qhi x hm)
      have qdz:(t.drop k).drop z=t.drop (k+z):=List.drop_drop
      rw[qdz]at qvz
      refine WC.seq<|WC.seq<|WC.region ?_
      refine WL.q rfl (r_move rfl) ?_
      refine WL.q rfl (r_move rfl) ?_
      refine WL.q rfl (r_len sl_27 rfl) ?_
      refine WL.q rfl (r_cmp (r_lss rfl rfl) (decide_eq_true (by(omega)))) ?_
      refine WL.nil ?_
      refine WC.condT rfl ?_
      refine WC.skip ?_
      refine WC.block ?_
      refine WC.seq<|WC.seq<|WC.region ?_
      refine WL.q rfl (r_move rfl) ?_
      refine WL.q rfl (r_move rfl) ?_
      refine WL.q rfl (r_idx1 sl_27 rfl rfl rfl (by first|omega|(simp;done)|(simp;omega))) ?_
      refine WL.q rfl (r_load one_5 rfl (Ext.refl _) hc0) ?_
      refine WL.q rfl (r_assign rfl) ?_
      refine WL.nil ?_
      refine WC.seq<|WC.region ?_
      refine WL.q rfl (r_move rfl) ?_
      refine WL.q rfl (r_cmp (r_lss rfl rfl) (decide_eq_false (by(omega)))) ?_
      refine WL.nil ?_
      refine WC.condF rfl ?_
      refine WC.skip ?_
      refine WC.seq<|WC.region ?_
      refine WL.q rfl (r_move rfl) ?_
      refine WL.q rfl (r_move rfl) ?_
      refine WL.q rfl (r_slicel sl_27 rfl rfl rfl (by first|omega|(simp;done)|(simp;omega))) ?_
      refine WL.l rfl (l_do body_87 rfl (DR_ok hS.ut (IsB.dropS hI q2) (by rw[hd];simp) qdec)) fun v2 w2 hh=>?_
      obtain⟨rfl,e2⟩:=hh
      have ns2:wi1.heap.size≤w2.heap.size:=e2.size
      refine WL.q rfl (r_move rfl) ?_
      refine WL.q rfl (r_extract rfl rfl) ?_
      refine WL.q rfl (r_extract rfl rfl) ?_
      refine WL.q rfl (r_assign rfl) ?_
      refine WL.q rfl (r_assign rfl) ?_
      refine WL.nil ?_
      refine WC.seq<|WC.seq<|WC.region ?_
      refine WL.q rfl (r_move rfl) ?_
      refine WL.q rfl (r_eql rfl rfl) ?_
      refine WL.q rfl (r_move rfl) ?_
      refine WL.qc rfl rfl rfl rfl (fun hc=>r_move rfl) ?_
      refine WL.qc rfl rfl rfl rfl (fun hc=>r_eql (cnd_of hc) rfl) ?_
      refine WL.q rfl (r_and rfl rfl (fun h=>beq_iff_eq.2 h)) ?_
      refine WL.nil ?_
      refine WC.cond rfl ?_ ?_
      · intro hc
        exfalso
        simp only[Bool.and_eq_true,beq_iff_eq,decide_eq_true_eq]at hc
        exact qcz ⟨by omega,by omega⟩
      · intro hc
        refine WC.skip ?_
        refine WC.seq<|WC.seq<|WC.region ?_
        refine WL.q rfl (r_move rfl) ?_
        refine WL.q rfl (r_eql rfl rfl) ?_
        refine WL.q rfl (r_move rfl) ?_
        refine WL.qc rfl rfl rfl rfl (fun hc=>r_move rfl) ?_
        refine WL.qc rfl rfl rfl rfl (fun hc=>r_eql (cnd_of hc) rfl) ?_
        refine WL.q rfl (r_or rfl rfl (fun h=>beq_iff_eq.2 h)) ?_
        refine WL.nil ?_
        refine WC.cond rfl ?_ ?_
        · intro hc2
          obtain⟨qz3,b',q3b,qcb⟩:=qsep (by simp only[Bool.or_eq_true,beq_iff_eq,decide_eq_true_eq]at hc2;omega)
          clear qsep
          subst qz3
          have q3d:t.take (k+3)=t.take k++[226,128,b']:=by rw[take_add',q3b]
          have qb2:b'.toNat=168∨b'.toNat=169:=by simp only[Bool.or_eq_true,beq_iff_eq,decide_eq_true_eq]at hc2;omega
          have qb3:b'=168∨b'=169:=qb2.imp (fun h=>UInt8.toNat_inj.1 h) (fun h=>UInt8.toNat_inj.1 h)
          have hV:=Since.mk (Evo.refl (A:=M) w2)
          refine WC.seq<|WC.seq<|WC.region ?_
          refine WL.q rfl (r_move rfl) ?_
          refine WL.q rfl (r_move rfl) ?_
          refine WL.q rfl (r_lss rfl rfl) ?_
          refine WL.nil ?_
          replace hI:=hI.mono e2
          replace hT:=hT.mono e2
          replace hS:=hS.mono e2
          replace hU:=hU.mono e2
          replace he:=(he.then hE).then e2
          refine WC.thenJ (ι:=(Nat×Nat)) [(0,_),(1,_),(7,_),(8,_),(10,_),(11,_)] (fun i=>[(4,.int .i64 (i.1:Int)),(5,.nilIface),(6,.int .i64 (i.2:Int))]) (fun i wi=>QS M tb l t sv k wi∧i.1≤10+6 * k∧i.2≤1000000∧Evo M w2 wi) (.cons rfl (.cons rfl (.cons rfl (.cons rfl (.cons rfl (.cons rfl .nil)))))) ?_ ?_
          · have qcl:((t.take k).drop st).length=k-st:=by rw[List.length_drop,List.length_take];omega
            rcases Nat.lt_or_ge st k with qsk|qsk
            · skip
              refine WC.condT (congrArg (fun b=>some (Value.bool b)) (decide_eq_true (show(st:Int)<(k:Int) by omega))) ?_
              refine WC.seq<|WC.regionD [(true,0),(true,1),(true,2),(true,3),(true,4),(true,5),(true,6),(true,7),(false,8),(true,9),(true,10),(true,11),(true,12),(true,13)] (Evo M _) mixed (by kernel_rfl) (Evo.drew _) ?_
              have nd1w2:w2.drew.heap.size=w2.heap.size:=rfl
              refine WD.q rfl (fun _ hS=>r_move rfl) ?_
              refine WD.q rfl (fun _ hS=>r_move rfl) ?_
              refine WD.q rfl (fun _ hS=>r_move rfl) ?_
              refine WD.q rfl (fun _ hS=>r_move rfl) ?_
              refine WD.q rfl (fun _ hS=>r_slice sl_27 rfl rfl rfl rfl rfl q1 (by omega)) ?_
              refine WD.q rfl (fun _ hS=>r_makeFn rfl rfl) ?_
              refine WD.q rfl (fun _ hS=>r_nilM mW (by kernel_rfl) rfl) ?_
              refine WD.q rfl (fun _ hS=>r_move rfl) ?_
              refine WD.l rfl rfl (l_invoke mW body_172 rfl rfl (SWrite_ok (hS.mono (Ext.drew _)) (by simp;omega) (by omega) (IsB.cutS (hI.mono (Ext.drew _)) q1 q2))) fun v3 w3 hh=>?_
              obtain⟨rfl,tv4,hS,e3⟩:=hh
              have ns3:w2.heap.size≤w3.heap.size:=e3.size
              refine⟨((Evo.drew _).then e3),?_⟩
              refine WD.q rfl (fun _ hS=>r_move rfl) ?_
              refine WD.q rfl (fun _ hS=>r_extract rfl rfl) ?_
              refine WD.q rfl (fun _ hS=>r_extract rfl rfl) ?_
              refine WD.q rfl (fun _ hS=>r_assign rfl) ?_
              refine WD.q rfl (fun _ hS=>r_assign rfl) ?_
              refine WD.nil ?_
              refine WC.seq<|WC.region ?_
              refine WL.q rfl (r_move rfl) ?_
              refine WL.q rfl (r_move rfl) ?_
              refine WL.q rfl (r_addi rfl rfl rfl (by omega) (by omega)) ?_
              refine WL.q rfl (r_assign rfl) ?_
              refine WL.nil ?_
              refine WC.seq<|WC.region ?_
              refine WL.q rfl (r_move rfl) ?_
              refine WL.q rfl (r_ifneNil ift_44 rfl) ?_
              refine WL.nil ?_
              refine WC.condF rfl ?_
              refine WC.skip ?_
              have hS5:St M w3 tb (l++34::(q++(t.take k).drop st)) tv4 sv:=by rw[List.append_assoc,List.cons_append]at hS;exact hS
              replace hV:=(hV.mono (Ext.drew _)).mono e3
              have qU:=hV.evo
              exact⟨(n+(k-st),k-st),(.cons rfl (.cons rfl (.cons rfl (.cons rfl (.cons rfl (.cons rfl .nil)))))),(.cons (lk_int rfl (by first|omega|(dsimp only;omega)|(dsimp only;done))) (.cons rfl (.cons (lk_int rfl (by first|omega|(dsimp only;omega)|(dsimp only;done))) .nil))),⟨⟨_,_,by have:=qQ.append (Qt.plain qP);rwa [take_split q1]at this,hS5⟩,by dsimp only;omega,by dsimp only;omega,qU⟩⟩
            · skip
              refine WC.condF (congrArg (fun b=>some (Value.bool b)) (decide_eq_false (show¬(st:Int)<(k:Int) by omega))) ?_
              refine WC.skip ?_
              have qe:st=k:=by omega
              have qU:=hV.evo
              have qS:=hS
              exact⟨(n,nn),(.cons rfl (.cons rfl (.cons rfl (.cons rfl (.cons rfl (.cons rfl .nil)))))),(.cons (lk_int rfl (by first|omega|(dsimp only;omega)|(dsimp only;done))) (.cons rfl (.cons (lk_int rfl (by first|omega|(dsimp only;omega)|(dsimp only;done))) .nil))),⟨by rw[← qe];exact⟨_,_,qQ,qS⟩,by dsimp only;omega,by dsimp only;omega,qU⟩⟩
          · skip
            intro i wj hh;obtain⟨hQ,n1,n2,hE⟩:=hh
            obtain⟨n0,m0⟩:=i
            dsimp only at hQ n1 n2⊢
            obtain⟨q,tv5,qQ,hS⟩:=hQ
            have qql:=qQ.len
            rw[List.length_take]at qql
            have q5l:([92,117,50,48,50]:List UInt8).length=5:=rfl
            refine WC.seq<|WC.region ?_
            refine WL.q rfl (r_move rfl) ?_
            refine WL.l rfl (l_invoke mWS body_174 rfl rfl (SStr_ok (s:=[92,117,50,48,50]) hS (by simp;omega) (by decide))) fun v3 w3 hh=>?_
            obtain⟨rfl,tv6,hS,e3⟩:=hh
            have ns3:wj.heap.size≤w3.heap.size:=e3.size
            refine WL.q rfl (r_move rfl) ?_
            refine WL.q rfl (r_extract rfl rfl) ?_
            refine WL.q rfl (r_extract rfl rfl) ?_
            refine WL.q rfl (r_assign rfl) ?_
            refine WL.q rfl (r_assign rfl) ?_
            refine WL.nil ?_
            refine WC.seq<|WC.region ?_
            refine WL.q rfl (r_move rfl) ?_
            refine WL.q rfl (r_move rfl) ?_
            refine WL.q rfl (r_addi rfl rfl rfl (by omega) (by omega)) ?_
            refine WL.q rfl (r_assign rfl) ?_
            refine WL.nil ?_
            refine WC.seq<|WC.seq<|WC.region ?_
            refine WL.q rfl (r_move rfl) ?_
            refine WL.q rfl (r_ifneNil ift_44 rfl) ?_
            refine WL.nil ?_
            refine WC.condF rfl ?_
            refine WC.skip ?_
            replace hI:=(hI.mono hE).mono e3
            replace hT:=(hT.mono hE).mono e3
            replace hU:=(hU.mono hE).mono e3
            replace hV:=(hV.mono hE).mono e3
            refine WC.seq<|WC.regionD [(true,0),(true,1),(true,2),(true,3),(true,4),(true,5),(true,6),(false,7),(true,8)] (Evo M _) mixed (by kernel_rfl) (Evo.drew _) ?_
            have nd1w3:w3.drew.heap.size=w3.heap.size:=rfl
            refine WD.q rfl (fun _ hS=>r_move rfl) ?_
            refine WD.q rfl (fun _ hS=>r_move rfl) ?_
            refine WD.q rfl (fun _ hS=>r_as (r_bitand rfl rfl) (and15r qcb qb2)) ?_
            refine WD.q rfl (fun _ hS=>r_idxs str_9 rfl rfl rfl (hex_get (show b'.toNat-160<16 by omega))) ?_
            refine WD.q rfl (fun _ hS=>r_makeFn rfl rfl) ?_
            refine WD.q rfl (fun _ hS=>r_nilM mWB (by kernel_rfl) rfl) ?_
            refine WD.q rfl (fun _ hS=>r_move rfl) ?_
            refine WD.l rfl rfl (l_invoke mWB body_173 rfl rfl (SByte_ok (c:=hx (b'.toNat-160)) (hS.mono (Ext.drew _)) (by simp;omega))) fun v4 w4 hh=>?_
            obtain⟨rfl,tv7,hS,e4⟩:=hh
            have ns4:w3.heap.size≤w4.heap.size:=e4.size
            refine⟨((Evo.drew _).then e4),?_⟩
            refine WD.q rfl (fun _ hS=>r_assign rfl) ?_
            refine WD.nil ?_
            refine WC.seq<|WC.seq<|WC.region ?_
            refine WL.q rfl (r_move rfl) ?_
            refine WL.q rfl (r_ifneNil ift_44 rfl) ?_
            refine WL.nil ?_
            refine WC.condF rfl ?_
            refine WC.skip ?_
            refine WC.seq<|WC.region ?_
            refine WL.q rfl (r_move rfl) ?_
            refine WL.q rfl (r_addi rfl rfl rfl (by omega) (by omega)) ?_
            refine WL.q rfl (r_assign rfl) ?_
            refine WL.nil ?_
            refine WC.seq<|WC.region ?_
            refine WL.q rfl (r_move rfl) ?_
            refine WL.q rfl (r_move rfl) ?_
            refine WL.q rfl (r_addi rfl rfl rfl (by omega) (by omega)) ?_
            refine WL.q rfl (r_assign rfl) ?_
            refine WL.nil ?_
            refine WC.seq<|WC.region ?_
            refine WL.q rfl (r_move rfl) ?_
            refine WL.q rfl (r_assign rfl) ?_
            refine WL.nil ?_
            refine WC.exit ?_
            replace hT:=(hT.mono (Ext.drew _)).mono e4
            exact⟨(n0+5+1,5,k+3,k+3),(.cons rfl (.cons rfl .nil)),(.cons (lk_int rfl (by first|omega|(dsimp only;omega)|(dsimp only;done))) (.cons rfl (.cons (lk_int rfl (by first|omega|(dsimp only;omega)|(dsimp only;done))) (.cons (lk_int rfl (by first|omega|(dsimp only;omega)|(dsimp only;done))) (.cons (lk_int rfl (by first|omega|(dsimp only;omega)|(dsimp only;done))) .nil))))),⟨⟨q++[92,117,50,48,50,hx (b'.toNat-160)],_,by have:=qQ.append (.sep qb3 .nil);rwa [← q3d]at this,by simpa using hS⟩,by simp,qvz,Nat.le_refl _,by dsimp only;omega,by dsimp only;omega,by dsimp only;omega,hT.evo⟩,(by dsimp only;omega)⟩
        · intro hc2
          clear qsep
          refine WC.skip ?_
          refine WC.region ?_
          refine WL.q rfl (r_move rfl) ?_
          refine WL.q rfl (r_move rfl) ?_
          refine WL.q rfl (r_addi rfl rfl rfl (by omega) (by omega)) ?_
          refine WL.q rfl (r_assign rfl) ?_
          refine WL.nil ?_
          replace hT:=hT.mono e2
          replace hS:=hS.mono e2
          exact⟨(n,nn,st,k+z),(.cons rfl (.cons rfl .nil)),(.cons (lk_int rfl (by first|omega|(dsimp only;omega)|(dsimp only;done))) (.cons rfl (.cons (lk_int rfl (by first|omega|(dsimp only;omega)|(dsimp only;done))) (.cons (lk_int rfl (by first|omega|(dsimp only;omega)|(dsimp only;done))) (.cons (lk_int rfl (by first|omega|(dsimp only;omega)|(dsimp only;done))) .nil))))),⟨⟨q,_,qQ,hS⟩,plain_app qP q1 q2 qpl,qvz,by dsimp only;omega,by dsimp only;omega,q3,q4,hT.evo⟩,(by dsimp only;omega)⟩
  · have qkt:k=t.length:=by omega
    subst qkt
    rw[List.take_length]at qP
    have qcl:(t.drop st).length=t.length-st:=List.length_drop
    refine WC.seq<|WC.seq<|WC.region ?_
    refine WL.q rfl (r_move rfl) ?_
    refine WL.q rfl (r_move rfl) ?_
    refine WL.q rfl (r_len sl_27 rfl) ?_
    refine WL.q rfl (r_cmp (r_lss rfl rfl) (decide_eq_false (by(omega)))) ?_
    refine WL.nil ?_
    refine WC.condF rfl ?_
    refine WC.exit ?_
    refine WC.seq<|WC.seq<|WC.region ?_
    refine WL.q rfl (r_move rfl) ?_
    refine WL.q rfl (r_move rfl) ?_
    refine WL.q rfl (r_len sl_27 rfl) ?_
    refine WL.q rfl (r_lss rfl rfl) ?_
    refine WL.nil ?_
    replace hI:=hI.mono hE
    replace he:=he.then hE
    refine WC.thenJ (ι:=Nat) [(0,_)] (fun i=>[(4,.int .i64 (i:Int)),(5,.nilIface)]) (fun i wi=>QS M tb l t sv t.length wi∧i≤10+6 * t.length∧Evo M wi1 wi) (.cons rfl .nil) ?_ ?_
    · rcases Nat.lt_or_ge st t.length with qsk|qsk
      · skip
        refine WC.condT (congrArg (fun b=>some (Value.bool b)) (decide_eq_true (show(st:Int)<(t.length:Int) by omega))) ?_
        refine WC.seq<|WC.regionD [(true,0),(true,1),(true,2),(true,3),(true,4),(true,5),(true,6),(false,7),(true,8),(true,9),(true,10),(true,11),(true,12)] (Evo M _) mixed (by kernel_rfl) (Evo.drew _) ?_
        have nd1wi1:wi1.drew.heap.size=wi1.heap.size:=rfl
        refine WD.q rfl (fun _ hS=>r_move rfl) ?_
        refine WD.q rfl (fun _ hS=>r_move rfl) ?_
        refine WD.q rfl (fun _ hS=>r_move rfl) ?_
        refine WD.q rfl (fun _ hS=>r_slicel sl_27 rfl rfl rfl q1) ?_
        refine WD.q rfl (fun _ hS=>r_makeFn rfl rfl) ?_
        refine WD.q rfl (fun _ hS=>r_nilM mW (by kernel_rfl) rfl) ?_
        refine WD.q rfl (fun _ hS=>r_move rfl) ?_
        refine WD.l rfl rfl (l_invoke mW body_172 rfl rfl (SWrite_ok (hS.mono (Ext.drew _)) (by simp;omega) (by omega) (IsB.dropS (hI.mono (Ext.drew _)) q1))) fun v2 w2 hh=>?_
        obtain⟨rfl,tv4,hS,e2⟩:=hh
        have ns2:wi1.heap.size≤w2.heap.size:=e2.size
        refine⟨((Evo.drew _).then e2),?_⟩
        refine WD.q rfl (fun _ hS=>r_move rfl) ?_
        refine WD.q rfl (fun _ hS=>r_extract rfl rfl) ?_
        refine WD.q rfl (fun _ hS=>r_extract rfl rfl) ?_
        refine WD.q rfl (fun _ hS=>r_assign rfl) ?_
        refine WD.q rfl (fun _ hS=>r_assign rfl) ?_
        refine WD.nil ?_
        refine WC.seq<|WC.region ?_
        refine WL.q rfl (r_move rfl) ?_
        refine WL.q rfl (r_move rfl) ?_
        refine WL.q rfl (r_addi rfl rfl rfl (by omega) (by omega)) ?_
        refine WL.q rfl (r_assign rfl) ?_
        refine WL.nil ?_
        refine WC.seq<|WC.region ?_
        refine WL.q rfl (r_move rfl) ?_
        refine WL.q rfl (r_ifneNil ift_44 rfl) ?_
        refine WL.nil ?_
        refine WC.condF rfl ?_
        refine WC.skip ?_
        have hS5:St M w2 tb (l++34::(q++t.drop st)) tv4 sv:=by rw[List.append_assoc,List.cons_append]at hS;exact hS
        replace hU:=(hU.mono (Ext.drew _)).mono e2
        have qU:=hU.evo
        exact⟨n+(t.length-st),(.cons rfl .nil),(.cons (lk_int rfl (by first|omega|(dsimp only;omega)|(dsimp only;done))) (.cons rfl .nil)),⟨⟨_,_,by have:=qQ.append (Qt.plain qP);rw[List.take_append_drop]at this;rw[List.take_length];exact this,hS5⟩,by omega,qU⟩⟩
      · skip
        refine WC.condF (congrArg (fun b=>some (Value.bool b)) (decide_eq_false (show¬(st:Int)<(t.length:Int) by omega))) ?_
        refine WC.skip ?_
        have qe:st=t.length:=by omega
        have qU:=hU.evo
        have qS:=hS
        exact⟨n,(.cons rfl .nil),(.cons (lk_int rfl (by first|omega|(dsimp only;omega)|(dsimp only;done))) (.cons rfl .nil)),⟨by rw[← qe];exact⟨_,_,qQ,qS⟩,by omega,qU⟩⟩
    · skip
      intro i wj hh;obtain⟨hQ,n1,hE⟩:=hh
      obtain⟨q,tv5,qQ,hS⟩:=hQ
      rw[List.take_length]at qQ
      have qql:=qQ.len
      refine WC.seq<|WC.region ?_
      refine WL.q rfl (r_move rfl) ?_
      refine WL.l rfl (l_invoke mWB body_173 rfl rfl (SByte_ok (c:=34) hS (by simp;omega))) fun v2 w2 hh=>?_
      obtain⟨rfl,tv6,hS,e2⟩:=hh
      have ns2:wj.heap.size≤w2.heap.size:=e2.size
      refine WL.q rfl (r_assign rfl) ?_
      refine WL.nil ?_
      refine WC.seq<|WC.seq<|WC.region ?_
      refine WL.q rfl (r_move rfl) ?_
      refine WL.q rfl (r_ifneNil ift_44 rfl) ?_
      refine WL.nil ?_
      refine WC.condF rfl ?_
      refine WC.skip ?_
      refine WC.seq<|WC.region ?_
      refine WL.q rfl (r_move rfl) ?_
      refine WL.q rfl (r_addi rfl rfl rfl (by omega) (by omega)) ?_
      refine WL.q rfl (r_assign rfl) ?_
      refine WL.nil ?_
      refine WC.ret ?_
      replace he:=(he.then hE).then e2
      exact fin2 rfl rfl ⟨_,_,_,rfl,qQ,(by simpa[qt]using hS),he⟩
end Go.Proofs.LL
