/- Contracts of functions and own laws. Conditions: those that each theorem states. -/
import Derived.Test.YtbkhpjeaacoobaaGreatDoorA16
set_option linter.all false
set_option maxRecDepth 20000
namespace Go.Proofs.LL
open Go Go.Proofs Go.RowKit
theorem fo_42_0:fOff Tryz.prog 42 0=some 0:=by kernel_rfl
theorem sl_27:slT Tryz.prog 27=some (5,1,1):=by kernel_rfl
theorem sz_27:szT Tryz.prog 27=some 1:=by kernel_rfl
structure Tx (w:World) (tb:Nat) (l:List UInt8) (v:Value):Prop where
  blk:Blk w tb [v]
  own:Own 0 5 1 w v l.length (bc l)
  ne:v.ownBlock≠some tb
theorem Tx.lt{w:World}{tb:Nat}{l:List UInt8}{v:Value}(h:Tx w tb l v):tb<w.heap.size:=h.blk.lt
theorem Own.monoB{B e z n:Nat}{A:Nat→Prop}{w w':World}{v:Value}{xs:List Value}(h:Own B e z w v n xs)(E:Evo A w w')(hA:∀k,v.ownBlock=some k→A k):Own B e z w' v n xs:=by
  obtain⟨h1,h2⟩:=h.row
  refine⟨h1,?_⟩
  rcases h2 with h2|⟨g,cap,cur,rfl,h4,h5,h6⟩
  · exact .inl h2
  · have hlt:=(Array.getElem?_eq_some_iff.1 h5).1
    exact .inr ⟨g,cap,cur,rfl,h4,by rw[E.block g hlt (hA g rfl)];exact h5,h6⟩
theorem Tx.mono{A:Nat→Prop}{w w':World}{tb:Nat}{l:List UInt8}{v:Value}(h:Tx w tb l v)(E:Evo A w w')(hA:A tb∧∀k,v.ownBlock=some k→A k:=by first|exact⟨trivial,fun _ _=>trivial⟩|assumption):Tx w' tb l v:=
  ⟨h.blk.mono E hA.1,h.own.monoB E hA.2,h.ne⟩
structure TE (tb:Nat) (v v':Value) (w w':World):Prop where
  evo:Evo (fun k=>k≠tb∧v.ownBlock≠some k) w w'
  ob:∀k,k<w.heap.size→v.ownBlock≠some k→v'.ownBlock≠some k
theorem TE.refl{tb:Nat}{v:Value}{w:World}:TE tb v v w w:=⟨Evo.refl _,fun _ _ h=>h⟩
theorem TE.trans{tb:Nat}{v v' v'':Value}{w w' w'':World}(h:TE tb v v' w w')(h':TE tb v' v'' w' w''):TE tb v v'' w w'':=
  ⟨h.evo.then h'.evo fun k hk hA=>⟨hA.1,h.ob k hk hA.2⟩,fun k hk hne=>h'.ob k (Nat.lt_of_lt_of_le hk h.evo.size) (h.ob k hk hne)⟩
theorem TE.ext{tb:Nat}{v v':Value}{w w' w'':World}(h:TE tb v v' w w')(e:Ext w' w''):TE tb v v' w w'':=⟨h.evo.then e,h.ob⟩
theorem TE.pre{tb:Nat}{v v':Value}{w w' w'':World}(e:Ext w w')(h:TE tb v v' w' w''):TE tb v v' w w'':=
  ⟨((Evo.refl _).then e fun _ _ _=>trivial).then h.evo fun _ _ h=>h,fun k hk=>h.ob k (Nat.lt_of_lt_of_le hk e.size)⟩
theorem l_appT{P:Program}{ρ:Fr}{ty:TypeId}{s x:Operand}{w:World}{B t tx e z bs n m:Nat}{zv v u:Value}{xs news:List Value}(ht:slZ P t=some (e,z,bs,zv))(hs:ov ρ s=some v)(hx:ov ρ x=some u)(hown:Own B e z w v n xs)(hsrc:Src P z tx u m news w)(hB:B≤w.heap.size)(h63:n+m≤maxLen)(hbytes:(n+m) * bs≤140737488355328):
    LoudOp P (.call ⟨.builtin .append, #[s,x], #[t,tx]⟩) ty ρ w (fun v' w'=>Own B e z w' v' (n+m) (xs++news)∧v'.oneCell'=true∧(∀k,k<w.heap.size→v.ownBlock≠some k→v'.ownBlock≠some k)∧Evo (fun k=>v.ownBlock≠some k) w w'):=
  (l_appO ht hs hx hown hsrc hB h63 hbytes).imp fun v' w' ⟨h1,h2,h3⟩=>⟨h1,h1.one,fun k hk hne e=>by
    rcases h3 with h3|h3
    · rw[h3]at e;exact hne e
    · have:=h3 k e;omega,h2⟩
theorem WByte_ok{tb:Nat}{c:UInt8}{l:List UInt8}{v:Value}{w:World}(hT:Tx w tb l v)(hl:l.length≤1000000000000):
    Does Tryz.prog 173 [.pointer (some ⟨tb,0,none⟩),.int .u8 (c.toNat:Int)] w fun r w'=>r= .nilIface∧∃v',Tx w' tb (l++[c]) v'∧TE tb v v' w w':=by
  obtain⟨hB,hO,hne⟩:=hT
  have hBl:=hB.lt
  have hol:=hO.lt
  refine does1 Tryz.func173 rfl rfl rfl ?_
  refine WC.seq<|WC.region ?_
  refine WL.q rfl (r_assign rfl) ?_
  refine WL.nil ?_
  refine WC.seq<|WC.region ?_
  refine WL.q rfl (r_move rfl) ?_
  refine WL.q rfl (r_move rfl) ?_
  refine WL.q rfl (r_nilp rfl) ?_
  refine WL.q rfl (r_fieldAddr rfl fo_42_0) ?_
  refine WL.q rfl (r_load one_27 rfl (Ext.refl _) (hB.get rfl)) ?_
  refine WL.q rfl (r_move rfl) ?_
  refine WL.l rfl (l_lit (vs:=[_]) slz_27 rfl (by first|rfl|(simp[Value.cells,Nat.beq_eq, *];done)) rfl rfl rfl) fun _ w1 hh=>?_
  obtain⟨rfl,hb1,e1⟩:=hh
  have ns1:w.heap.size≤w1.heap.size:=e1.size
  replace hO:=hO.mono e1
  refine WL.l rfl (l_appT slz_27 rfl rfl hO (Src.at slk_27 hb1.at rfl rfl) (by omega) (by simp only[maxLen];omega) (by omega)) fun v2 w2 hh=>?_
  obtain⟨hO,q1,qob,e2⟩:=hh
  have qO:=hO
  have ns2:w1.heap.size≤w2.heap.size:=e2.size
  refine WL.q rfl (r_nilp rfl) ?_
  refine WL.q rfl (r_fieldAddr rfl fo_42_0) ?_
  replace hB:=(hB.mono e1).mono e2
  refine WL.l0 (l_store sz_27 rfl rfl (by first|rfl|assumption|exact Own.one (by assumption)) hB rfl) fun _ w3 hh=>?_
  obtain⟨hB,e3,hz3⟩:=hh
  have ns3:w2.heap.size≤w3.heap.size:=e3.size
  refine WL.nil ?_
  refine WC.seq<|WC.region ?_
  refine WL.q rfl (r_assign rfl) ?_
  refine WL.nil ?_
  refine WC.ret ?_
  exact fin1 rfl ⟨rfl,v2,⟨hB,((qO.cast (by simp) (by rw[bc_append];rfl)).monoB e3 fun k hk e=>by subst e;exact qob _ (by omega) hne hk),qob tb (by omega) hne⟩,
    ⟨((((Evo.refl (A:=fun k=>k≠tb∧v.ownBlock≠some k) w).then e1 fun _ _ _=>trivial).then e2 fun k _ h=>h.2).then e3 fun k _ h=>h.1),fun k hk h=>qob k (by omega) h⟩⟩
theorem WStr_ok{tb:Nat}{s l:List UInt8}{v:Value}{w:World}(hT:Tx w tb l v)(hl:l.length≤1000000000000)(hs:s.length≤1000000000000):
    Does Tryz.prog 174 [.pointer (some ⟨tb,0,none⟩),str s] w fun r w'=>r= .tuple #[.int .i64 (s.length:Int),.nilIface]∧∃v',Tx w' tb (l++s) v'∧TE tb v v' w w':=by
  obtain⟨hB,hO,hne⟩:=hT
  have hBl:=hB.lt
  refine does2 Tryz.func174 rfl rfl rfl ?_
  refine WC.seq<|WC.region ?_
  refine WL.q rfl (r_assign rfl) ?_
  refine WL.q rfl (r_assign rfl) ?_
  refine WL.nil ?_
  refine WC.seq<|WC.region ?_
  refine WL.q rfl (r_move rfl) ?_
  refine WL.q rfl (r_move rfl) ?_
  refine WL.q rfl (r_nilp rfl) ?_
  refine WL.q rfl (r_fieldAddr rfl fo_42_0) ?_
  refine WL.q rfl (r_load one_27 rfl (Ext.refl _) (hB.get rfl)) ?_
  refine WL.q rfl (r_move rfl) ?_
  refine WL.l rfl (l_appT slz_27 rfl rfl hO (Src.str str_9) (by omega) (by simp only[maxLen];omega) (by omega)) fun v1 w1 hh=>?_
  obtain⟨hO,q1,qob,e1⟩:=hh
  have qO:=hO
  have ns1:w.heap.size≤w1.heap.size:=e1.size
  refine WL.q rfl (r_nilp rfl) ?_
  refine WL.q rfl (r_fieldAddr rfl fo_42_0) ?_
  replace hB:=hB.mono e1
  refine WL.l0 (l_store sz_27 rfl rfl (by first|rfl|assumption|exact Own.one (by assumption)) hB rfl) fun _ w2 hh=>?_
  obtain⟨hB,e2,hz2⟩:=hh
  have ns2:w1.heap.size≤w2.heap.size:=e2.size
  refine WL.nil ?_
  refine WC.seq<|WC.region ?_
  refine WL.q rfl (r_move rfl) ?_
  refine WL.q rfl (r_lens str_9 rfl) ?_
  refine WL.q rfl (r_assign rfl) ?_
  refine WL.q rfl (r_assign rfl) ?_
  refine WL.nil ?_
  refine WC.ret ?_
  exact fin2 rfl rfl ⟨rfl,v1,⟨hB,((qO.cast (by simp) (by rw[bc_append])).monoB e2 fun k hk e=>by subst e;exact qob _ (by omega) hne hk),qob tb (by omega) hne⟩,
    ⟨(((Evo.refl (A:=fun k=>k≠tb∧v.ownBlock≠some k) w).then e1 fun k _ h=>h.2).then e2 fun k _ h=>h.1),fun k hk h=>qob k (by omega) h⟩⟩
theorem WWrite_ok{A:Nat→Prop}{tb:Nat}{s l:List UInt8}{v u:Value}{w:World}(hT:Tx w tb l v)(hl:l.length≤1000000000000)(hs:s.length≤1000000000000)(hI:IsB A w u s):
    Does Tryz.prog 172 [.pointer (some ⟨tb,0,none⟩),u] w fun r w'=>r= .tuple #[.int .i64 (s.length:Int),.nilIface]∧∃v',Tx w' tb (l++s) v'∧TE tb v v' w w':=by
  obtain⟨hB,hO,hne⟩:=hT
  have hBl:=hB.lt
  have hI2:=hI
  obtain⟨pu,cu,rfl,_,_⟩:=hI2
  refine does2 Tryz.func172 rfl rfl rfl ?_
  refine WC.seq<|WC.region ?_
  refine WL.q rfl (r_assign rfl) ?_
  refine WL.q rfl (r_assign rfl) ?_
  refine WL.nil ?_
  refine WC.seq<|WC.region ?_
  refine WL.q rfl (r_move rfl) ?_
  refine WL.q rfl (r_move rfl) ?_
  refine WL.q rfl (r_nilp rfl) ?_
  refine WL.q rfl (r_fieldAddr rfl fo_42_0) ?_
  refine WL.q rfl (r_load one_27 rfl (Ext.refl _) (hB.get rfl)) ?_
  refine WL.q rfl (r_move rfl) ?_
  refine WL.l rfl (l_appT slz_27 rfl rfl hO (Src.isB slk_27 hI) (by omega) (by simp only[maxLen];omega) (by omega)) fun v1 w1 hh=>?_
  obtain⟨hO,q1,qob,e1⟩:=hh
  have qO:=hO
  have ns1:w.heap.size≤w1.heap.size:=e1.size
  refine WL.q rfl (r_nilp rfl) ?_
  refine WL.q rfl (r_fieldAddr rfl fo_42_0) ?_
  replace hB:=hB.mono e1
  refine WL.l0 (l_store sz_27 rfl rfl (by first|rfl|assumption|exact Own.one (by assumption)) hB rfl) fun _ w2 hh=>?_
  obtain⟨hB,e2,hz2⟩:=hh
  have ns2:w1.heap.size≤w2.heap.size:=e2.size
  refine WL.nil ?_
  refine WC.seq<|WC.region ?_
  refine WL.q rfl (r_move rfl) ?_
  refine WL.q rfl (r_len sl_27 rfl) ?_
  refine WL.q rfl (r_assign rfl) ?_
  refine WL.q rfl (r_assign rfl) ?_
  refine WL.nil ?_
  refine WC.ret ?_
  exact fin2 rfl rfl ⟨rfl,v1,⟨hB,((qO.cast (by simp) (by rw[bc_append])).monoB e2 fun k hk e=>by subst e;exact qob _ (by omega) hne hk),qob tb (by omega) hne⟩,
    ⟨(((Evo.refl (A:=fun k=>k≠tb∧v.ownBlock≠some k) w).then e1 fun k _ h=>h.2).then e2 fun k _ h=>h.1),fun k hk h=>qob k (by omega) h⟩⟩
end Go.Proofs.LL
