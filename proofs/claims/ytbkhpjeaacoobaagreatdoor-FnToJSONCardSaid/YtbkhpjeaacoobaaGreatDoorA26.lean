/- Contracts of functions and own laws. Conditions: those that each theorem states. -/
import Derived.Test.YtbkhpjeaacoobaaGreatDoorA25
set_option linter.all false
set_option maxRecDepth 20000
namespace Go.Proofs.LL
open Go Go.Proofs Go.RowKit
theorem body_23:bodyB Tryz.prog 23=true:=by kernel_rfl
theorem fo_61_0:fOff Tryz.prog 61 0=some 0:=by kernel_rfl
theorem fo_61_1:fOff Tryz.prog 61 1=some 1:=by kernel_rfl
section
variable {P:Program} {ρ:Fr} {w w0:World} {ty:TypeId} {x y s:Operand}
theorem r_substr{t:TypeId}{a:List UInt8}{lo hi:Operand}{k1 k2:IntKind}{i1 i2:Int}{l h:Nat}(ht:strT P t=true)(hx:ov ρ x=some (str a))(h1:ov ρ lo=some (.int k1 i1))(h2:ov ρ hi=some (.int k2 i2))(e1:i1=(l:Int))(e2:i2=(h:Int))(hl:l≤h)(hh:h≤a.length):
    RunOp P (.slice t x (some lo) (some hi) none) ty ρ w (str ((a.take h).drop l)):=by
  intro N D ac dst pos af g ha
  unfold strT at ht
  split at ht
  · rename_i hu
    subst e1 e2
    have hsz:({data:=a.toArray}:ByteArray).size=a.length:=rfl
    have he:({data:=a.toArray}:ByteArray).extract l h=⟨((a.take h).drop l).toArray⟩:=by
      ext1
      rw[ByteArray.data_extract]
      apply Array.ext'
      simp[List.drop_take]
    simp[execOp,ha.ov hx,ha.ov h1,ha.ov h2,Instr.sliceAt,Instr.slice,Instr.sliceBounds,Instr.sliceBound,underlying,hu,asIntOf,str,hl,hh,hsz,he]
  · cases ht
end
theorem drop_c{s r:List UInt8}{p:Nat}{b:UInt8}(h:s.drop p=b::r):p<s.length∧(⟨s.toArray⟩:ByteArray)[p]?=some b∧s.drop (p+1)=r:=by
  have hl:p<s.length:=by
    rcases Nat.lt_or_ge p s.length with h1|h1
    · exact h1
    · rw[List.drop_eq_nil_of_le h1]at h;cases h
  rw[List.drop_eq_getElem_cons hl]at h
  injection h with h1 h2
  exact⟨hl,by rw[str_get hl,h1],h2⟩
def NB(r:List UInt8):Prop:=r=[]∨∃b r',r=b::r'∧b.toNat≠32∧b.toNat≠10∧b.toNat≠13∧b.toNat≠9
theorem NB.c{b:UInt8}{r:List UInt8}(h:b.toNat≠32∧b.toNat≠10∧b.toNat≠13∧b.toNat≠9):NB (b::r):= .inr ⟨b,r,rfl,h⟩
abbrev Jt(w:World)(jb:Nat)(s:List UInt8)(p:Nat):Prop:=Blk w jb [str s,.int .i64 (p:Int),.bool false]
theorem blank_ok{jb p:Nat}{s:List UInt8}{w:World}(hK:Jt w jb s p)(hp:p≤s.length)(hb:NB (s.drop p)):
    Does Tryz.prog 23 [.pointer (some ⟨jb,0,none⟩)] w fun r w'=>r= .tuple #[]∧Ext w w':=by
  have hsz:({data:=s.toArray}:ByteArray).size=s.length:=rfl
  unfold Jt at hK
  refine does0 Tryz.func23 rfl rfl rfl ?_
  have he:Evo (fun _=>True) w w:=Evo.refl w
  refine WC.block ?_
  refine WC.loop2 (ι:=Nat) [(0,_)] (fun i=>[]) (fun i wi=>Blk wi jb [str s,.int .i64 (p:Int),.bool false]∧Ext w wi) (fun i=>0) 0 (.cons rfl .nil) .nil (⟨hK,Ext.refl _⟩) ?_
  intro i wi1 hh;obtain⟨hK,hE⟩:=hh
  rcases Nat.eq_or_lt_of_le hp with hq|hq
  · skip
    refine WC.seq<|WC.seq<|WC.regionD [(true,0),(true,1),(true,2),(true,3),(true,4),(true,5),(true,6),(true,7),(true,8),(true,9),(true,10),(true,11),(true,12),(true,13),(true,14),(true,15),(true,16),(true,17),(true,18),(true,19),(true,20),(true,21),(true,22),(true,23),(true,24),(true,25),(true,26),(true,27),(true,28),(true,29),(true,30),(true,31),(true,32),(true,33),(true,34),(true,35),(true,36),(true,37),(true,38),(true,39),(true,40),(true,41),(true,42),(true,43),(true,44),(true,45),(true,46),(true,47),(true,48),(true,49),(true,50),(true,51),(true,52),(true,53),(true,54),(true,55),(true,56),(true,57)] (Ext _) mixed (by kernel_rfl) (Ext.drew _) ?_
    refine WD.q rfl (fun _ hS=>r_move rfl) ?_
    refine WD.q rfl (fun _ hS=>r_nilp rfl) ?_
    refine WD.q rfl (fun _ hS=>r_fieldAddr rfl fo_61_1) ?_
    refine WD.q rfl (fun _ hS=>r_load one_3 rfl hS (hK.get rfl)) ?_
    refine WD.q rfl (fun _ hS=>r_move rfl) ?_
    refine WD.q rfl (fun _ hS=>r_nilp rfl) ?_
    refine WD.q rfl (fun _ hS=>r_fieldAddr rfl fo_61_0) ?_
    refine WD.q rfl (fun _ hS=>r_load one_9 rfl hS (hK.get rfl)) ?_
    refine WD.q rfl (fun _ hS=>r_lens str_9 rfl) ?_
    refine WD.q rfl (fun _ hS=>r_cmp (r_lss rfl rfl) (decide_eq_false (by(omega)))) ?_
    refine WD.q rfl (fun _ hS=>r_move rfl) ?_
    refine WD.sk rfl rfl rfl rfl rfl ?_
    refine WD.sk rfl rfl rfl rfl rfl ?_
    refine WD.sk rfl rfl rfl rfl rfl ?_
    refine WD.sk rfl rfl rfl rfl rfl ?_
    refine WD.sk rfl rfl rfl rfl rfl ?_
    refine WD.sk rfl rfl rfl rfl rfl ?_
    refine WD.sk rfl rfl rfl rfl rfl ?_
    refine WD.sk rfl rfl rfl rfl rfl ?_
    refine WD.sk rfl rfl rfl rfl rfl ?_
    refine WD.sk rfl rfl rfl rfl rfl ?_
    refine WD.sk rfl rfl rfl rfl rfl ?_
    refine WD.sk rfl rfl rfl rfl rfl ?_
    refine WD.sk rfl rfl rfl rfl rfl ?_
    refine WD.sk rfl rfl rfl rfl rfl ?_
    refine WD.sk rfl rfl rfl rfl rfl ?_
    refine WD.sk rfl rfl rfl rfl rfl ?_
    refine WD.sk rfl rfl rfl rfl rfl ?_
    refine WD.sk rfl rfl rfl rfl rfl ?_
    refine WD.sk rfl rfl rfl rfl rfl ?_
    refine WD.sk rfl rfl rfl rfl rfl ?_
    refine WD.sk rfl rfl rfl rfl rfl ?_
    refine WD.sk rfl rfl rfl rfl rfl ?_
    refine WD.sk rfl rfl rfl rfl rfl ?_
    refine WD.sk rfl rfl rfl rfl rfl ?_
    refine WD.sk rfl rfl rfl rfl rfl ?_
    refine WD.sk rfl rfl rfl rfl rfl ?_
    refine WD.sk rfl rfl rfl rfl rfl ?_
    refine WD.sk rfl rfl rfl rfl rfl ?_
    refine WD.sk rfl rfl rfl rfl rfl ?_
    refine WD.sk rfl rfl rfl rfl rfl ?_
    refine WD.sk rfl rfl rfl rfl rfl ?_
    refine WD.sk rfl rfl rfl rfl rfl ?_
    refine WD.sk rfl rfl rfl rfl rfl ?_
    refine WD.sk rfl rfl rfl rfl rfl ?_
    refine WD.sk rfl rfl rfl rfl rfl ?_
    refine WD.sk rfl rfl rfl rfl rfl ?_
    refine WD.sk rfl rfl rfl rfl rfl ?_
    refine WD.sk rfl rfl rfl rfl rfl ?_
    refine WD.sk rfl rfl rfl rfl rfl ?_
    refine WD.sk rfl rfl rfl rfl rfl ?_
    refine WD.sk rfl rfl rfl rfl rfl ?_
    refine WD.sk rfl rfl rfl rfl rfl ?_
    refine WD.sk rfl rfl rfl rfl rfl ?_
    refine WD.sk rfl rfl rfl rfl rfl ?_
    refine WD.sk rfl rfl rfl rfl rfl ?_
    refine WD.sk rfl rfl rfl rfl rfl ?_
    refine WD.q rfl (fun _ hS=>r_pick rfl rfl rfl) ?_
    refine WD.nil ?_
    refine WC.condF rfl ?_
    refine WC.exit ?_
    replace he:=(he.then hE).then (Ext.drew _)
    exact fin0n (ρ:=argsFr 0 []) (R:=fun r w'=>r= .tuple #[]∧Ext w w') ⟨rfl,he⟩
  · rcases hb with hb|⟨b,r',hb,q1,q2,q3,q4⟩
    · have:=congrArg List.length hb;rw[List.length_drop,List.length_nil]at this;omega
    · obtain⟨_,hb1,_⟩:=drop_c hb
      refine WC.seq<|WC.seq<|WC.regionD [(true,0),(true,1),(true,2),(true,3),(true,4),(true,5),(true,6),(true,7),(true,8),(true,9),(true,10),(true,11),(true,12),(true,13),(true,14),(true,15),(true,16),(true,17),(true,18),(true,19),(true,20),(true,21),(true,22),(true,23),(true,24),(true,25),(true,26),(true,27),(true,28),(true,29),(true,30),(true,31),(true,32),(true,33),(true,34),(true,35),(true,36),(true,37),(true,38),(true,39),(true,40),(true,41),(true,42),(true,43),(true,44),(true,45),(true,46),(true,47),(true,48),(true,49),(true,50),(true,51),(true,52),(true,53),(true,54),(true,55),(true,56),(true,57)] (Ext _) mixed (by kernel_rfl) (Ext.drew _) ?_
      refine WD.q rfl (fun _ hS=>r_move rfl) ?_
      refine WD.q rfl (fun _ hS=>r_nilp rfl) ?_
      refine WD.q rfl (fun _ hS=>r_fieldAddr rfl fo_61_1) ?_
      refine WD.q rfl (fun _ hS=>r_load one_3 rfl hS (hK.get rfl)) ?_
      refine WD.q rfl (fun _ hS=>r_move rfl) ?_
      refine WD.q rfl (fun _ hS=>r_nilp rfl) ?_
      refine WD.q rfl (fun _ hS=>r_fieldAddr rfl fo_61_0) ?_
      refine WD.q rfl (fun _ hS=>r_load one_9 rfl hS (hK.get rfl)) ?_
      refine WD.q rfl (fun _ hS=>r_lens str_9 rfl) ?_
      refine WD.q rfl (fun _ hS=>r_cmp (r_lss rfl rfl) (decide_eq_true (by(omega)))) ?_
      refine WD.q rfl (fun _ hS=>r_move rfl) ?_
      refine WD.qg rfl rfl rfl rfl (fun _ hS=>r_move rfl) ?_
      refine WD.qg rfl rfl rfl rfl (fun _ hS=>r_nilp rfl) ?_
      refine WD.qg rfl rfl rfl rfl (fun _ hS=>r_fieldAddr rfl fo_61_0) ?_
      refine WD.qg rfl rfl rfl rfl (fun _ hS=>r_load one_9 rfl hS (hK.get rfl)) ?_
      refine WD.qg rfl rfl rfl rfl (fun _ hS=>r_move rfl) ?_
      refine WD.qg rfl rfl rfl rfl (fun _ hS=>r_nilp rfl) ?_
      refine WD.qg rfl rfl rfl rfl (fun _ hS=>r_fieldAddr rfl fo_61_1) ?_
      refine WD.qg rfl rfl rfl rfl (fun _ hS=>r_load one_3 rfl hS (hK.get rfl)) ?_
      refine WD.qg rfl rfl rfl rfl (fun _ hS=>r_idxs str_9 rfl rfl rfl (by assumption)) ?_
      refine WD.qg rfl rfl rfl rfl (fun _ hS=>r_cmp (r_eql rfl rfl) (beqF (by omega))) ?_
      refine WD.qg rfl rfl rfl rfl (fun _ hS=>r_move rfl) ?_
      refine WD.qg rfl rfl rfl rfl (fun _ hS=>r_move rfl) ?_
      refine WD.qg rfl rfl rfl rfl (fun _ hS=>r_nilp rfl) ?_
      refine WD.qg rfl rfl rfl rfl (fun _ hS=>r_fieldAddr rfl fo_61_0) ?_
      refine WD.qg rfl rfl rfl rfl (fun _ hS=>r_load one_9 rfl hS (hK.get rfl)) ?_
      refine WD.qg rfl rfl rfl rfl (fun _ hS=>r_move rfl) ?_
      refine WD.qg rfl rfl rfl rfl (fun _ hS=>r_nilp rfl) ?_
      refine WD.qg rfl rfl rfl rfl (fun _ hS=>r_fieldAddr rfl fo_61_1) ?_
      refine WD.qg rfl rfl rfl rfl (fun _ hS=>r_load one_3 rfl hS (hK.get rfl)) ?_
      refine WD.qg rfl rfl rfl rfl (fun _ hS=>r_idxs str_9 rfl rfl rfl (by assumption)) ?_
      refine WD.qg rfl rfl rfl rfl (fun _ hS=>r_cmp (r_eql rfl rfl) (beqF (by omega))) ?_
      refine WD.qg rfl rfl rfl rfl (fun _ hS=>r_pick rfl rfl rfl) ?_
      refine WD.qg rfl rfl rfl rfl (fun _ hS=>r_move rfl) ?_
      refine WD.qg rfl rfl rfl rfl (fun _ hS=>r_move rfl) ?_
      refine WD.qg rfl rfl rfl rfl (fun _ hS=>r_nilp rfl) ?_
      refine WD.qg rfl rfl rfl rfl (fun _ hS=>r_fieldAddr rfl fo_61_0) ?_
      refine WD.qg rfl rfl rfl rfl (fun _ hS=>r_load one_9 rfl hS (hK.get rfl)) ?_
      refine WD.qg rfl rfl rfl rfl (fun _ hS=>r_move rfl) ?_
      refine WD.qg rfl rfl rfl rfl (fun _ hS=>r_nilp rfl) ?_
      refine WD.qg rfl rfl rfl rfl (fun _ hS=>r_fieldAddr rfl fo_61_1) ?_
      refine WD.qg rfl rfl rfl rfl (fun _ hS=>r_load one_3 rfl hS (hK.get rfl)) ?_
      refine WD.qg rfl rfl rfl rfl (fun _ hS=>r_idxs str_9 rfl rfl rfl (by assumption)) ?_
      refine WD.qg rfl rfl rfl rfl (fun _ hS=>r_cmp (r_eql rfl rfl) (beqF (by omega))) ?_
      refine WD.qg rfl rfl rfl rfl (fun _ hS=>r_pick rfl rfl rfl) ?_
      refine WD.qg rfl rfl rfl rfl (fun _ hS=>r_move rfl) ?_
      refine WD.qg rfl rfl rfl rfl (fun _ hS=>r_move rfl) ?_
      refine WD.qg rfl rfl rfl rfl (fun _ hS=>r_nilp rfl) ?_
      refine WD.qg rfl rfl rfl rfl (fun _ hS=>r_fieldAddr rfl fo_61_0) ?_
      refine WD.qg rfl rfl rfl rfl (fun _ hS=>r_load one_9 rfl hS (hK.get rfl)) ?_
      refine WD.qg rfl rfl rfl rfl (fun _ hS=>r_move rfl) ?_
      refine WD.qg rfl rfl rfl rfl (fun _ hS=>r_nilp rfl) ?_
      refine WD.qg rfl rfl rfl rfl (fun _ hS=>r_fieldAddr rfl fo_61_1) ?_
      refine WD.qg rfl rfl rfl rfl (fun _ hS=>r_load one_3 rfl hS (hK.get rfl)) ?_
      refine WD.qg rfl rfl rfl rfl (fun _ hS=>r_idxs str_9 rfl rfl rfl (by assumption)) ?_
      refine WD.qg rfl rfl rfl rfl (fun _ hS=>r_cmp (r_eql rfl rfl) (beqF (by omega))) ?_
      refine WD.qg rfl rfl rfl rfl (fun _ hS=>r_pick rfl rfl rfl) ?_
      refine WD.q rfl (fun _ hS=>r_pick rfl rfl rfl) ?_
      refine WD.nil ?_
      refine WC.condF rfl ?_
      refine WC.exit ?_
      replace he:=(he.then hE).then (Ext.drew _)
      exact fin0n (ρ:=argsFr 0 []) (R:=fun r w'=>r= .tuple #[]∧Ext w w') ⟨rfl,he⟩
theorem eatT_ok{jb p:Nat}{s r:List UInt8}{b:UInt8}{w:World}(hK:Jt w jb s p)(hd:s.drop p=b::r)(hn:b.toNat≠32∧b.toNat≠10∧b.toNat≠13∧b.toNat≠9)(hs:s.length≤1000000000000):
    Does Tryz.prog 39 [.pointer (some ⟨jb,0,none⟩),.int .u8 (b.toNat:Int)] w fun u w'=>u= .bool true∧Jt w' jb s (p+1)∧Evo (fun k=>k≠jb) w w':=by
  have hsz:({data:=s.toArray}:ByteArray).size=s.length:=rfl
  obtain⟨hp,hb1,_⟩:=drop_c hd
  unfold Jt at hK⊢
  refine does1 Tryz.func39 rfl rfl rfl ?_
  have he:Evo (fun k=>k≠jb) w w:=Evo.refl w
  refine WC.seq<|WC.region ?_
  refine WL.q rfl (r_assign rfl) ?_
  refine WL.nil ?_
  refine WC.seq<|WC.region ?_
  refine WL.q rfl (r_move rfl) ?_
  refine WL.l rfl (l_do body_23 rfl (blank_ok hK (by omega) (by rw[hd];exact NB.c hn))) fun v1 w1 hh=>?_
  obtain⟨rfl,e1⟩:=hh
  refine WL.nil ?_
  replace hK:=hK.mono e1
  refine WC.seq<|WC.seq<|WC.regionD [(true,0),(true,1),(true,2),(true,3),(true,4),(true,5),(true,6),(true,7),(true,8),(true,9),(true,10),(true,11),(true,12),(true,13),(true,14),(true,15),(true,16),(true,17),(true,18),(true,19),(true,20),(true,21),(true,22)] (Ext _) mixed (by kernel_rfl) (Ext.drew _) ?_
  refine WD.q rfl (fun _ hS=>r_move rfl) ?_
  refine WD.q rfl (fun _ hS=>r_nilp rfl) ?_
  refine WD.q rfl (fun _ hS=>r_fieldAddr rfl fo_61_1) ?_
  refine WD.q rfl (fun _ hS=>r_load one_3 rfl hS (hK.get rfl)) ?_
  refine WD.q rfl (fun _ hS=>r_move rfl) ?_
  refine WD.q rfl (fun _ hS=>r_nilp rfl) ?_
  refine WD.q rfl (fun _ hS=>r_fieldAddr rfl fo_61_0) ?_
  refine WD.q rfl (fun _ hS=>r_load one_9 rfl hS (hK.get rfl)) ?_
  refine WD.q rfl (fun _ hS=>r_lens str_9 rfl) ?_
  refine WD.q rfl (fun _ hS=>r_cmp (r_lss rfl rfl) (decide_eq_true (by(omega)))) ?_
  refine WD.q rfl (fun _ hS=>r_move rfl) ?_
  refine WD.qg rfl rfl rfl rfl (fun _ hS=>r_move rfl) ?_
  refine WD.qg rfl rfl rfl rfl (fun _ hS=>r_nilp rfl) ?_
  refine WD.qg rfl rfl rfl rfl (fun _ hS=>r_fieldAddr rfl fo_61_0) ?_
  refine WD.qg rfl rfl rfl rfl (fun _ hS=>r_load one_9 rfl hS (hK.get rfl)) ?_
  refine WD.qg rfl rfl rfl rfl (fun _ hS=>r_move rfl) ?_
  refine WD.qg rfl rfl rfl rfl (fun _ hS=>r_nilp rfl) ?_
  refine WD.qg rfl rfl rfl rfl (fun _ hS=>r_fieldAddr rfl fo_61_1) ?_
  refine WD.qg rfl rfl rfl rfl (fun _ hS=>r_load one_3 rfl hS (hK.get rfl)) ?_
  refine WD.qg rfl rfl rfl rfl (fun _ hS=>r_idxs str_9 rfl rfl rfl (by assumption)) ?_
  refine WD.qg rfl rfl rfl rfl (fun _ hS=>r_move rfl) ?_
  refine WD.qg rfl rfl rfl rfl (fun _ hS=>r_cmp (r_eql rfl rfl) (beqT (by omega))) ?_
  refine WD.q rfl (fun _ hS=>r_pick rfl rfl rfl) ?_
  refine WD.nil ?_
  refine WC.condT rfl ?_
  refine WC.seq<|WC.region ?_
  refine WL.q rfl (r_move rfl) ?_
  refine WL.q rfl (r_nilp rfl) ?_
  refine WL.q rfl (r_fieldAddr rfl fo_61_1) ?_
  replace hK:=hK.mono (Ext.drew _)
  refine WL.q rfl (r_load one_3 rfl (Ext.refl _) (hK.get rfl)) ?_
  refine WL.q rfl (r_addi rfl rfl rfl (by omega) (by omega)) ?_
  refine WL.q rfl (r_nilp rfl) ?_
  refine WL.q rfl (r_fieldAddr rfl fo_61_1) ?_
  refine WL.l0 (l_store sz_3 rfl rfl (by first|rfl|assumption|exact Own.one (by assumption)) hK rfl) fun _ w2 hh=>?_
  obtain⟨hK,e2,hz2⟩:=hh
  refine WL.nil ?_
  refine WC.seq<|WC.region ?_
  refine WL.q rfl (r_assign rfl) ?_
  refine WL.nil ?_
  refine WC.ret ?_
  replace he:=((he.then e1).then (Ext.drew _)).then e2
  exact fin1 rfl ⟨rfl,hK,he⟩
theorem eatF_ok{jb p:Nat}{s r:List UInt8}{b c:UInt8}{w:World}(hK:Jt w jb s p)(hd:s.drop p=c::r)(hn:c.toNat≠32∧c.toNat≠10∧c.toNat≠13∧c.toNat≠9)(hbc:c.toNat≠b.toNat):
    Does Tryz.prog 39 [.pointer (some ⟨jb,0,none⟩),.int .u8 (b.toNat:Int)] w fun u w'=>u= .bool false∧Ext w w':=by
  have hsz:({data:=s.toArray}:ByteArray).size=s.length:=rfl
  obtain⟨hp,hb1,_⟩:=drop_c hd
  unfold Jt at hK
  refine does1 Tryz.func39 rfl rfl rfl ?_
  have he:Evo (fun _=>True) w w:=Evo.refl w
  refine WC.seq<|WC.region ?_
  refine WL.q rfl (r_assign rfl) ?_
  refine WL.nil ?_
  refine WC.seq<|WC.region ?_
  refine WL.q rfl (r_move rfl) ?_
  refine WL.l rfl (l_do body_23 rfl (blank_ok hK (by omega) (by rw[hd];exact NB.c hn))) fun v1 w1 hh=>?_
  obtain⟨rfl,e1⟩:=hh
  refine WL.nil ?_
  replace hK:=hK.mono e1
  refine WC.seq<|WC.seq<|WC.regionD [(true,0),(true,1),(true,2),(true,3),(true,4),(true,5),(true,6),(true,7),(true,8),(true,9),(true,10),(true,11),(true,12),(true,13),(true,14),(true,15),(true,16),(true,17),(true,18),(true,19),(true,20),(true,21),(true,22)] (Ext _) mixed (by kernel_rfl) (Ext.drew _) ?_
  refine WD.q rfl (fun _ hS=>r_move rfl) ?_
  refine WD.q rfl (fun _ hS=>r_nilp rfl) ?_
  refine WD.q rfl (fun _ hS=>r_fieldAddr rfl fo_61_1) ?_
  refine WD.q rfl (fun _ hS=>r_load one_3 rfl hS (hK.get rfl)) ?_
  refine WD.q rfl (fun _ hS=>r_move rfl) ?_
  refine WD.q rfl (fun _ hS=>r_nilp rfl) ?_
  refine WD.q rfl (fun _ hS=>r_fieldAddr rfl fo_61_0) ?_
  refine WD.q rfl (fun _ hS=>r_load one_9 rfl hS (hK.get rfl)) ?_
  refine WD.q rfl (fun _ hS=>r_lens str_9 rfl) ?_
  refine WD.q rfl (fun _ hS=>r_cmp (r_lss rfl rfl) (decide_eq_true (by(omega)))) ?_
  refine WD.q rfl (fun _ hS=>r_move rfl) ?_
  refine WD.qg rfl rfl rfl rfl (fun _ hS=>r_move rfl) ?_
  refine WD.qg rfl rfl rfl rfl (fun _ hS=>r_nilp rfl) ?_
  refine WD.qg rfl rfl rfl rfl (fun _ hS=>r_fieldAddr rfl fo_61_0) ?_
  refine WD.qg rfl rfl rfl rfl (fun _ hS=>r_load one_9 rfl hS (hK.get rfl)) ?_
  refine WD.qg rfl rfl rfl rfl (fun _ hS=>r_move rfl) ?_
  refine WD.qg rfl rfl rfl rfl (fun _ hS=>r_nilp rfl) ?_
  refine WD.qg rfl rfl rfl rfl (fun _ hS=>r_fieldAddr rfl fo_61_1) ?_
  refine WD.qg rfl rfl rfl rfl (fun _ hS=>r_load one_3 rfl hS (hK.get rfl)) ?_
  refine WD.qg rfl rfl rfl rfl (fun _ hS=>r_idxs str_9 rfl rfl rfl (by assumption)) ?_
  refine WD.qg rfl rfl rfl rfl (fun _ hS=>r_move rfl) ?_
  refine WD.qg rfl rfl rfl rfl (fun _ hS=>r_cmp (r_eql rfl rfl) (beqF (by omega))) ?_
  refine WD.q rfl (fun _ hS=>r_pick rfl rfl rfl) ?_
  refine WD.nil ?_
  refine WC.condF rfl ?_
  refine WC.skip ?_
  refine WC.seq<|WC.region ?_
  refine WL.q rfl (r_assign rfl) ?_
  refine WL.nil ?_
  refine WC.ret ?_
  replace he:=(he.then e1).then (Ext.drew _)
  exact fin1 rfl ⟨rfl,he⟩
theorem wordT_ok{jb p:Nat}{s t:List UInt8}{w:World}(hK:Jt w jb s p)(hp:p≤s.length)(hd:(s.drop p).take t.length=t)(hs:s.length≤1000000000000):
    Does Tryz.prog 30 [.pointer (some ⟨jb,0,none⟩),str t] w fun u w'=>u= .bool true∧Jt w' jb s (p+t.length)∧Evo (fun k=>k≠jb) w w':=by
  have hsz:({data:=s.toArray}:ByteArray).size=s.length:=rfl
  have htz:({data:=t.toArray}:ByteArray).size=t.length:=rfl
  have hl:=congrArg List.length hd
  rw[List.length_take,List.length_drop]at hl
  have hsub:(s.take (p+t.length)).drop p=t:=by rw[List.drop_take,Nat.add_sub_cancel_left];exact hd
  unfold Jt at hK⊢
  refine does1 Tryz.func30 rfl rfl rfl ?_
  have he:Evo (fun k=>k≠jb) w w:=Evo.refl w
  refine WC.seq<|WC.region ?_
  refine WL.q rfl (r_assign rfl) ?_
  refine WL.nil ?_
  refine WC.seq<|WC.seq<|WC.regionD [(true,0),(true,1),(true,2),(true,3),(true,4),(true,5),(true,6),(true,7),(true,8),(true,9),(true,10),(true,11),(true,12),(true,13),(true,14),(true,15),(true,16),(true,17),(true,18),(true,19),(true,20),(true,21),(true,22),(true,23),(true,24),(true,25),(true,26),(true,27),(true,28),(true,29),(true,30),(true,31),(true,32)] (Ext _) mixed (by kernel_rfl) (Ext.drew _) ?_
  refine WD.q rfl (fun _ hS=>r_move rfl) ?_
  refine WD.q rfl (fun _ hS=>r_nilp rfl) ?_
  refine WD.q rfl (fun _ hS=>r_fieldAddr rfl fo_61_0) ?_
  refine WD.q rfl (fun _ hS=>r_load one_9 rfl hS (hK.get rfl)) ?_
  refine WD.q rfl (fun _ hS=>r_lens str_9 rfl) ?_
  refine WD.q rfl (fun _ hS=>r_move rfl) ?_
  refine WD.q rfl (fun _ hS=>r_nilp rfl) ?_
  refine WD.q rfl (fun _ hS=>r_fieldAddr rfl fo_61_1) ?_
  refine WD.q rfl (fun _ hS=>r_load one_3 rfl hS (hK.get rfl)) ?_
  refine WD.q rfl (fun _ hS=>r_subi rfl rfl rfl (by omega) (by omega)) ?_
  refine WD.q rfl (fun _ hS=>r_move rfl) ?_
  refine WD.q rfl (fun _ hS=>r_lens str_9 rfl) ?_
  refine WD.q rfl (fun _ hS=>r_cmp (r_geq rfl rfl) (decide_eq_true (by(omega)))) ?_
  refine WD.q rfl (fun _ hS=>r_move rfl) ?_
  refine WD.qg rfl rfl rfl rfl (fun _ hS=>r_move rfl) ?_
  refine WD.qg rfl rfl rfl rfl (fun _ hS=>r_nilp rfl) ?_
  refine WD.qg rfl rfl rfl rfl (fun _ hS=>r_fieldAddr rfl fo_61_0) ?_
  refine WD.qg rfl rfl rfl rfl (fun _ hS=>r_load one_9 rfl hS (hK.get rfl)) ?_
  refine WD.qg rfl rfl rfl rfl (fun _ hS=>r_move rfl) ?_
  refine WD.qg rfl rfl rfl rfl (fun _ hS=>r_nilp rfl) ?_
  refine WD.qg rfl rfl rfl rfl (fun _ hS=>r_fieldAddr rfl fo_61_1) ?_
  refine WD.qg rfl rfl rfl rfl (fun _ hS=>r_load one_3 rfl hS (hK.get rfl)) ?_
  refine WD.qg rfl rfl rfl rfl (fun _ hS=>r_move rfl) ?_
  refine WD.qg rfl rfl rfl rfl (fun _ hS=>r_nilp rfl) ?_
  refine WD.qg rfl rfl rfl rfl (fun _ hS=>r_fieldAddr rfl fo_61_1) ?_
  refine WD.qg rfl rfl rfl rfl (fun _ hS=>r_load one_3 rfl hS (hK.get rfl)) ?_
  refine WD.qg rfl rfl rfl rfl (fun _ hS=>r_move rfl) ?_
  refine WD.qg rfl rfl rfl rfl (fun _ hS=>r_lens str_9 rfl) ?_
  refine WD.qg rfl rfl rfl rfl (fun _ hS=>r_addi rfl rfl rfl (by omega) (by omega)) ?_
  refine WD.qg rfl rfl rfl rfl (fun _ hS=>r_substr str_9 rfl rfl rfl rfl (show(p:Int)+(t.length:Int)=((p+t.length:Nat):Int) by omega) (by omega) (by omega)) ?_
  refine WD.qg rfl rfl rfl rfl (fun _ hS=>r_move rfl) ?_
  refine WD.qg rfl rfl rfl rfl (fun _ hS=>r_cmp (r_streq rfl rfl) (show((⟨((s.take (p+t.length)).drop p).toArray⟩:ByteArray).toList==(⟨t.toArray⟩:ByteArray).toList)=true by rw[hsub];simp)) ?_
  refine WD.q rfl (fun _ hS=>r_pick rfl rfl rfl) ?_
  refine WD.nil ?_
  refine WC.condT rfl ?_
  refine WC.seq<|WC.region ?_
  refine WL.q rfl (r_move rfl) ?_
  refine WL.q rfl (r_nilp rfl) ?_
  refine WL.q rfl (r_fieldAddr rfl fo_61_1) ?_
  replace hK:=hK.mono (Ext.drew _)
  refine WL.q rfl (r_load one_3 rfl (Ext.refl _) (hK.get rfl)) ?_
  refine WL.q rfl (r_move rfl) ?_
  refine WL.q rfl (r_lens str_9 rfl) ?_
  refine WL.q rfl (r_addi rfl rfl rfl (by omega) (by omega)) ?_
  refine WL.q rfl (r_nilp rfl) ?_
  refine WL.q rfl (r_fieldAddr rfl fo_61_1) ?_
  refine WL.l0 (l_store sz_3 rfl rfl (by first|rfl|assumption|exact Own.one (by assumption)) hK rfl) fun _ w1 hh=>?_
  obtain⟨hK,e1,hz1⟩:=hh
  refine WL.nil ?_
  refine WC.seq<|WC.region ?_
  refine WL.q rfl (r_assign rfl) ?_
  refine WL.nil ?_
  refine WC.ret ?_
  replace he:=(he.then (Ext.drew _)).then e1
  exact fin1 rfl ⟨rfl,hK,he⟩
theorem wordF_ok{jb p:Nat}{s t r:List UInt8}{b c:UInt8}{w:World}(hK:Jt w jb s p)(hp:p≤s.length)(hd:s.drop p=b::r)(hbc:b≠c)(hs:s.length≤1000000000000)(ht:t.length≤1000000):
    Does Tryz.prog 30 [.pointer (some ⟨jb,0,none⟩),str (c::t)] w fun u w'=>u= .bool false∧Ext w w':=by
  have hsz:({data:=s.toArray}:ByteArray).size=s.length:=rfl
  have htz:({data:=(c::t).toArray}:ByteArray).size=t.length+1:=by simp[ByteArray.size]
  unfold Jt at hK
  refine does1 Tryz.func30 rfl rfl rfl ?_
  have he:Evo (fun _=>True) w w:=Evo.refl w
  rcases Nat.lt_or_ge (s.length-p) (t.length+1)with q1|q1
  · skip
    refine WC.seq<|WC.region ?_
    refine WL.q rfl (r_assign rfl) ?_
    refine WL.nil ?_
    refine WC.seq<|WC.seq<|WC.regionD [(true,0),(true,1),(true,2),(true,3),(true,4),(true,5),(true,6),(true,7),(true,8),(true,9),(true,10),(true,11),(true,12),(true,13),(true,14),(true,15),(true,16),(true,17),(true,18),(true,19),(true,20),(true,21),(true,22),(true,23),(true,24),(true,25),(true,26),(true,27),(true,28),(true,29),(true,30),(true,31),(true,32)] (Ext _) mixed (by kernel_rfl) (Ext.drew _) ?_
    refine WD.q rfl (fun _ hS=>r_move rfl) ?_
    refine WD.q rfl (fun _ hS=>r_nilp rfl) ?_
    refine WD.q rfl (fun _ hS=>r_fieldAddr rfl fo_61_0) ?_
    refine WD.q rfl (fun _ hS=>r_load one_9 rfl hS (hK.get rfl)) ?_
    refine WD.q rfl (fun _ hS=>r_lens str_9 rfl) ?_
    refine WD.q rfl (fun _ hS=>r_move rfl) ?_
    refine WD.q rfl (fun _ hS=>r_nilp rfl) ?_
    refine WD.q rfl (fun _ hS=>r_fieldAddr rfl fo_61_1) ?_
    refine WD.q rfl (fun _ hS=>r_load one_3 rfl hS (hK.get rfl)) ?_
    refine WD.q rfl (fun _ hS=>r_subi rfl rfl rfl (by omega) (by omega)) ?_
    refine WD.q rfl (fun _ hS=>r_move rfl) ?_
    refine WD.q rfl (fun _ hS=>r_lens str_9 rfl) ?_
    refine WD.q rfl (fun _ hS=>r_cmp (r_geq rfl rfl) (decide_eq_false (by(omega)))) ?_
    refine WD.q rfl (fun _ hS=>r_move rfl) ?_
    refine WD.sk rfl rfl rfl rfl rfl ?_
    refine WD.sk rfl rfl rfl rfl rfl ?_
    refine WD.sk rfl rfl rfl rfl rfl ?_
    refine WD.sk rfl rfl rfl rfl rfl ?_
    refine WD.sk rfl rfl rfl rfl rfl ?_
    refine WD.sk rfl rfl rfl rfl rfl ?_
    refine WD.sk rfl rfl rfl rfl rfl ?_
    refine WD.sk rfl rfl rfl rfl rfl ?_
    refine WD.sk rfl rfl rfl rfl rfl ?_
    refine WD.sk rfl rfl rfl rfl rfl ?_
    refine WD.sk rfl rfl rfl rfl rfl ?_
    refine WD.sk rfl rfl rfl rfl rfl ?_
    refine WD.sk rfl rfl rfl rfl rfl ?_
    refine WD.sk rfl rfl rfl rfl rfl ?_
    refine WD.sk rfl rfl rfl rfl rfl ?_
    refine WD.sk rfl rfl rfl rfl rfl ?_
    refine WD.sk rfl rfl rfl rfl rfl ?_
    refine WD.sk rfl rfl rfl rfl rfl ?_
    refine WD.q rfl (fun _ hS=>r_pick rfl rfl rfl) ?_
    refine WD.nil ?_
    refine WC.condF rfl ?_
    refine WC.skip ?_
    refine WC.seq<|WC.region ?_
    refine WL.q rfl (r_assign rfl) ?_
    refine WL.nil ?_
    refine WC.ret ?_
    replace he:=he.then (Ext.drew _)
    exact fin1 rfl ⟨rfl,he⟩
  · have hsub:(s.take (p+(t.length+1))).drop p=b::r.take t.length:=by rw[List.drop_take,Nat.add_sub_cancel_left,hd];rfl
    refine WC.seq<|WC.region ?_
    refine WL.q rfl (r_assign rfl) ?_
    refine WL.nil ?_
    refine WC.seq<|WC.seq<|WC.regionD [(true,0),(true,1),(true,2),(true,3),(true,4),(true,5),(true,6),(true,7),(true,8),(true,9),(true,10),(true,11),(true,12),(true,13),(true,14),(true,15),(true,16),(true,17),(true,18),(true,19),(true,20),(true,21),(true,22),(true,23),(true,24),(true,25),(true,26),(true,27),(true,28),(true,29),(true,30),(true,31),(true,32)] (Ext _) mixed (by kernel_rfl) (Ext.drew _) ?_
    refine WD.q rfl (fun _ hS=>r_move rfl) ?_
    refine WD.q rfl (fun _ hS=>r_nilp rfl) ?_
    refine WD.q rfl (fun _ hS=>r_fieldAddr rfl fo_61_0) ?_
    refine WD.q rfl (fun _ hS=>r_load one_9 rfl hS (hK.get rfl)) ?_
    refine WD.q rfl (fun _ hS=>r_lens str_9 rfl) ?_
    refine WD.q rfl (fun _ hS=>r_move rfl) ?_
    refine WD.q rfl (fun _ hS=>r_nilp rfl) ?_
    refine WD.q rfl (fun _ hS=>r_fieldAddr rfl fo_61_1) ?_
    refine WD.q rfl (fun _ hS=>r_load one_3 rfl hS (hK.get rfl)) ?_
    refine WD.q rfl (fun _ hS=>r_subi rfl rfl rfl (by omega) (by omega)) ?_
    refine WD.q rfl (fun _ hS=>r_move rfl) ?_
    refine WD.q rfl (fun _ hS=>r_lens str_9 rfl) ?_
    refine WD.q rfl (fun _ hS=>r_cmp (r_geq rfl rfl) (decide_eq_true (by(omega)))) ?_
    refine WD.q rfl (fun _ hS=>r_move rfl) ?_
    refine WD.qg rfl rfl rfl rfl (fun _ hS=>r_move rfl) ?_
    refine WD.qg rfl rfl rfl rfl (fun _ hS=>r_nilp rfl) ?_
    refine WD.qg rfl rfl rfl rfl (fun _ hS=>r_fieldAddr rfl fo_61_0) ?_
    refine WD.qg rfl rfl rfl rfl (fun _ hS=>r_load one_9 rfl hS (hK.get rfl)) ?_
    refine WD.qg rfl rfl rfl rfl (fun _ hS=>r_move rfl) ?_
    refine WD.qg rfl rfl rfl rfl (fun _ hS=>r_nilp rfl) ?_
    refine WD.qg rfl rfl rfl rfl (fun _ hS=>r_fieldAddr rfl fo_61_1) ?_
    refine WD.qg rfl rfl rfl rfl (fun _ hS=>r_load one_3 rfl hS (hK.get rfl)) ?_
    refine WD.qg rfl rfl rfl rfl (fun _ hS=>r_move rfl) ?_
    refine WD.qg rfl rfl rfl rfl (fun _ hS=>r_nilp rfl) ?_
    refine WD.qg rfl rfl rfl rfl (fun _ hS=>r_fieldAddr rfl fo_61_1) ?_
    refine WD.qg rfl rfl rfl rfl (fun _ hS=>r_load one_3 rfl hS (hK.get rfl)) ?_
    refine WD.qg rfl rfl rfl rfl (fun _ hS=>r_move rfl) ?_
    refine WD.qg rfl rfl rfl rfl (fun _ hS=>r_lens str_9 rfl) ?_
    refine WD.qg rfl rfl rfl rfl (fun _ hS=>r_addi rfl rfl rfl (by omega) (by omega)) ?_
    refine WD.qg rfl rfl rfl rfl (fun _ hS=>r_substr str_9 rfl rfl rfl rfl (show(p:Int)+((({data:=(c::t).toArray}:ByteArray).size:Nat):Int)=((p+(t.length+1):Nat):Int) by omega) (by omega) (by omega)) ?_
    refine WD.qg rfl rfl rfl rfl (fun _ hS=>r_move rfl) ?_
    refine WD.qg rfl rfl rfl rfl (fun _ hS=>r_cmp (r_streq rfl rfl) (show((⟨((s.take (p+(t.length+1))).drop p).toArray⟩:ByteArray).toList==(⟨(c::t).toArray⟩:ByteArray).toList)=false by rw[hsub];simp[hbc])) ?_
    refine WD.q rfl (fun _ hS=>r_pick rfl rfl rfl) ?_
    refine WD.nil ?_
    refine WC.condF rfl ?_
    refine WC.skip ?_
    refine WC.seq<|WC.region ?_
    refine WL.q rfl (r_assign rfl) ?_
    refine WL.nil ?_
    refine WC.ret ?_
    replace he:=he.then (Ext.drew _)
    exact fin1 rfl ⟨rfl,he⟩
end Go.Proofs.LL
