/- Contracts of functions and own laws. Conditions: those that each theorem states. -/
import Derived.Test.YtbkhpjeaacoobaaGreatDoorA31
set_option linter.all false
set_option maxRecDepth 20000
namespace Go.Proofs.LL
open Go Go.Proofs Go.RowKit
theorem body_55:bodyB Tryz.prog 55=true:=by kernel_rfl
theorem body_56:bodyB Tryz.prog 56=true:=by kernel_rfl
theorem body_80:bodyB Tryz.prog 80=true:=by kernel_rfl
theorem cv_21_112:cvInt Tryz.prog 21 112=some .u32:=by kernel_rfl
theorem cv_3_21:cvInt Tryz.prog 3 21=some .i32:=by kernel_rfl
theorem AppR_ok{b:UInt8}{w:World}(hb:b.toNat<128):
    Does Tryz.prog 56 [.slice none 0 0,.int .i32 (b.toNat:Int)] w fun r w'=>IsB (fun k=>w.heap.size≤k) w' r [b]∧Ext w w':=by
  refine does1 Tryz.func56 rfl rfl rfl ?_
  refine WC.seq<|WC.region ?_
  refine WL.q rfl (r_assign rfl) ?_
  refine WL.nil ?_
  refine WC.seq<|WC.seq<|WC.region ?_
  refine WL.q rfl (r_move rfl) ?_
  refine WL.q rfl (r_cvIntE cv_21_112 rfl (show IntKind.u32.wrap (b.toNat:Int)=(b.toNat:Int) by rw[IntKind.wrap_u32];omega)) ?_
  refine WL.q rfl (r_cmp (r_leq rfl rfl) (decide_eq_true (by(omega)))) ?_
  refine WL.nil ?_
  refine WC.condT rfl ?_
  refine WC.seq<|WC.region ?_
  refine WL.q rfl (r_move rfl) ?_
  refine WL.q rfl (r_move rfl) ?_
  refine WL.q rfl (r_cvIntE cv_21_5 rfl (show IntKind.u8.wrap (b.toNat:Int)=(b.toNat:Int) by rw[IntKind.wrap_u8];omega)) ?_
  refine WL.l rfl (l_lit (vs:=[_]) slz_27 rfl (by first|rfl|(simp[Value.cells,Nat.beq_eq, *];done)) rfl rfl rfl) fun _ w1 hh=>?_
  obtain⟨rfl,hb1,e1⟩:=hh
  have ns1:w.heap.size≤w1.heap.size:=e1.size
  refine WL.l rfl (l_app slz_27 rfl rfl (Own.nil w.heap.size 5 1 _) (Src.at slk_27 hb1.at rfl rfl) (by omega) (by simp only[maxLen];omega) (by omega)) fun v2 w2 hh=>?_
  obtain⟨hO,e2⟩:=hh
  have ns2:w1.heap.size≤w2.heap.size:=e2.size
  refine WL.q rfl (r_assign rfl) ?_
  refine WL.nil ?_
  refine WC.ret ?_
  exact fin1 rfl ⟨Own.toB (l:=[b]) hO fun k h _=>h,e1.then e2 fun _ _ _=>by assumption⟩
theorem App80_168{w:World}:
    Does Tryz.prog 80 [.slice none 0 0,.int .i32 8232] w fun r w'=>IsB (fun k=>w.heap.size≤k) w' r [226,128,168]∧Ext w w':=by
  refine does1 Tryz.func80 rfl rfl rfl ?_
  refine WC.seq<|WC.region ?_
  refine WL.q rfl (r_assign rfl) ?_
  refine WL.nil ?_
  refine WC.seq<|WC.region ?_
  refine WL.q rfl (r_move rfl) ?_
  refine WL.q rfl (r_cvInt cv_21_112 rfl) ?_
  refine WL.q rfl (r_assign rfl) ?_
  refine WL.nil ?_
  refine WC.block ?_
  refine WC.seq<|WC.region ?_
  refine WL.q rfl (r_move rfl) ?_
  refine WL.q rfl (r_leq rfl rfl) ?_ --K
  refine WL.q rfl (r_assign rfl) ?_
  refine WL.nil ?_
  refine WC.condF rfl ?_
  refine WC.seq<|WC.seq<|WC.region ?_
  refine WL.q rfl (r_move rfl) ?_
  refine WL.q rfl (r_lss rfl rfl) ?_ --K
  refine WL.q rfl (r_assign rfl) ?_
  refine WL.nil ?_
  refine WC.condT rfl ?_
  refine WC.skip ?_
  refine WC.condT rfl ?_
  refine WC.seq<|WC.region ?_
  refine WL.q rfl (r_move rfl) ?_
  refine WL.q rfl (r_move rfl) ?_
  refine WL.q rfl (r_shr rfl rfl (by decide)) ?_
  refine WL.q rfl (r_cvInt cv_21_5 rfl) ?_
  refine WL.q rfl (r_bitor rfl rfl) ?_
  refine WL.q rfl (r_move rfl) ?_
  refine WL.q rfl (r_shr rfl rfl (by decide)) ?_
  refine WL.q rfl (r_cvInt cv_21_5 rfl) ?_
  refine WL.q rfl (r_bitand rfl rfl) ?_
  refine WL.q rfl (r_bitor rfl rfl) ?_
  refine WL.q rfl (r_move rfl) ?_
  refine WL.q rfl (r_cvInt cv_21_5 rfl) ?_
  refine WL.q rfl (r_bitand rfl rfl) ?_
  refine WL.q rfl (r_bitor rfl rfl) ?_
  refine WL.l rfl (l_lit (vs:=[_,_,_]) slz_27 rfl (by first|rfl|(simp[Value.cells,Nat.beq_eq, *];done)) rfl rfl rfl) fun _ w1 hh=>?_
  obtain⟨rfl,hb1,e1⟩:=hh
  have ns1:w.heap.size≤w1.heap.size:=e1.size
  refine WL.l rfl (l_app slz_27 rfl rfl (Own.nil w.heap.size 5 1 _) (Src.at slk_27 hb1.at rfl rfl) (by omega) (by simp only[maxLen];omega) (by omega)) fun v2 w2 hh=>?_
  obtain⟨hO,e2⟩:=hh
  have ns2:w1.heap.size≤w2.heap.size:=e2.size
  refine WL.q rfl (r_assign rfl) ?_
  refine WL.nil ?_
  refine WC.ret ?_
  exact fin1 rfl ⟨Own.toB (l:=[226,128,168]) (hO.cong (by rfl)) fun k h _=>h,e1.then e2 fun _ _ _=>by assumption⟩
theorem AppS_168{w:World}:
    Does Tryz.prog 56 [.slice none 0 0,.int .i32 8232] w fun r w'=>IsB (fun k=>w.heap.size≤k) w' r [226,128,168]∧Ext w w':=by
  refine does1 Tryz.func56 rfl rfl rfl ?_
  refine WC.seq<|WC.region ?_
  refine WL.q rfl (r_assign rfl) ?_
  refine WL.nil ?_
  refine WC.seq<|WC.seq<|WC.region ?_
  refine WL.q rfl (r_move rfl) ?_
  refine WL.q rfl (r_cvInt cv_21_112 rfl) ?_
  refine WL.q rfl (r_leq rfl rfl) ?_ --K
  refine WL.nil ?_
  refine WC.condF rfl ?_
  refine WC.skip ?_
  refine WC.seq<|WC.region ?_
  refine WL.q rfl (r_move rfl) ?_
  refine WL.q rfl (r_move rfl) ?_
  refine WL.l rfl (l_do body_80 rfl (App80_168)) fun v1 w1 hh=>?_
  obtain⟨hB,e1⟩:=hh
  have ns1:w.heap.size≤w1.heap.size:=e1.size
  refine WL.q rfl (r_assign rfl) ?_
  refine WL.nil ?_
  refine WC.ret ?_
  exact fin1 rfl ⟨hB,e1⟩
theorem App80_169{w:World}:
    Does Tryz.prog 80 [.slice none 0 0,.int .i32 8233] w fun r w'=>IsB (fun k=>w.heap.size≤k) w' r [226,128,169]∧Ext w w':=by
  refine does1 Tryz.func80 rfl rfl rfl ?_
  refine WC.seq<|WC.region ?_
  refine WL.q rfl (r_assign rfl) ?_
  refine WL.nil ?_
  refine WC.seq<|WC.region ?_
  refine WL.q rfl (r_move rfl) ?_
  refine WL.q rfl (r_cvInt cv_21_112 rfl) ?_
  refine WL.q rfl (r_assign rfl) ?_
  refine WL.nil ?_
  refine WC.block ?_
  refine WC.seq<|WC.region ?_
  refine WL.q rfl (r_move rfl) ?_
  refine WL.q rfl (r_leq rfl rfl) ?_ --K
  refine WL.q rfl (r_assign rfl) ?_
  refine WL.nil ?_
  refine WC.condF rfl ?_
  refine WC.seq<|WC.seq<|WC.region ?_
  refine WL.q rfl (r_move rfl) ?_
  refine WL.q rfl (r_lss rfl rfl) ?_ --K
  refine WL.q rfl (r_assign rfl) ?_
  refine WL.nil ?_
  refine WC.condT rfl ?_
  refine WC.skip ?_
  refine WC.condT rfl ?_
  refine WC.seq<|WC.region ?_
  refine WL.q rfl (r_move rfl) ?_
  refine WL.q rfl (r_move rfl) ?_
  refine WL.q rfl (r_shr rfl rfl (by decide)) ?_
  refine WL.q rfl (r_cvInt cv_21_5 rfl) ?_
  refine WL.q rfl (r_bitor rfl rfl) ?_
  refine WL.q rfl (r_move rfl) ?_
  refine WL.q rfl (r_shr rfl rfl (by decide)) ?_
  refine WL.q rfl (r_cvInt cv_21_5 rfl) ?_
  refine WL.q rfl (r_bitand rfl rfl) ?_
  refine WL.q rfl (r_bitor rfl rfl) ?_
  refine WL.q rfl (r_move rfl) ?_
  refine WL.q rfl (r_cvInt cv_21_5 rfl) ?_
  refine WL.q rfl (r_bitand rfl rfl) ?_
  refine WL.q rfl (r_bitor rfl rfl) ?_
  refine WL.l rfl (l_lit (vs:=[_,_,_]) slz_27 rfl (by first|rfl|(simp[Value.cells,Nat.beq_eq, *];done)) rfl rfl rfl) fun _ w1 hh=>?_
  obtain⟨rfl,hb1,e1⟩:=hh
  have ns1:w.heap.size≤w1.heap.size:=e1.size
  refine WL.l rfl (l_app slz_27 rfl rfl (Own.nil w.heap.size 5 1 _) (Src.at slk_27 hb1.at rfl rfl) (by omega) (by simp only[maxLen];omega) (by omega)) fun v2 w2 hh=>?_
  obtain⟨hO,e2⟩:=hh
  have ns2:w1.heap.size≤w2.heap.size:=e2.size
  refine WL.q rfl (r_assign rfl) ?_
  refine WL.nil ?_
  refine WC.ret ?_
  exact fin1 rfl ⟨Own.toB (l:=[226,128,169]) (hO.cong (by rfl)) fun k h _=>h,e1.then e2 fun _ _ _=>by assumption⟩
theorem AppS_169{w:World}:
    Does Tryz.prog 56 [.slice none 0 0,.int .i32 8233] w fun r w'=>IsB (fun k=>w.heap.size≤k) w' r [226,128,169]∧Ext w w':=by
  refine does1 Tryz.func56 rfl rfl rfl ?_
  refine WC.seq<|WC.region ?_
  refine WL.q rfl (r_assign rfl) ?_
  refine WL.nil ?_
  refine WC.seq<|WC.seq<|WC.region ?_
  refine WL.q rfl (r_move rfl) ?_
  refine WL.q rfl (r_cvInt cv_21_112 rfl) ?_
  refine WL.q rfl (r_leq rfl rfl) ?_ --K
  refine WL.nil ?_
  refine WC.condF rfl ?_
  refine WC.skip ?_
  refine WC.seq<|WC.region ?_
  refine WL.q rfl (r_move rfl) ?_
  refine WL.q rfl (r_move rfl) ?_
  refine WL.l rfl (l_do body_80 rfl (App80_169)) fun v1 w1 hh=>?_
  obtain⟨hB,e1⟩:=hh
  have ns1:w.heap.size≤w1.heap.size:=e1.size
  refine WL.q rfl (r_assign rfl) ?_
  refine WL.nil ?_
  refine WC.ret ?_
  exact fin1 rfl ⟨hB,e1⟩
abbrev JP(w w':World)(jb:Nat)(s:List UInt8)(p:Nat):Prop:=Jt w' jb s p∧Evo (fun k=>k≠jb) w w'
theorem esc_34{jb p:Nat}{s r:List UInt8}{w:World}(hK:Jt w jb s p)(hd:s.drop p=34::r)(hs:s.length≤1000000000000):
    Does Tryz.prog 38 [.pointer (some ⟨jb,0,none⟩)] w fun u w'=>IsB (fun k=>w.heap.size≤k) w' u [34]∧Jt w' jb s (p+1)∧Evo (fun k=>k≠jb) w w':=by
  have hsz:({data:=s.toArray}:ByteArray).size=s.length:=rfl
  obtain⟨hp,hb1,_⟩:=drop_c hd
  have hlt:=hK.lt
  unfold Jt at hK⊢
  refine does1 Tryz.func38 rfl rfl rfl ?_
  have he:Evo (fun k=>k≠jb) w w:=Evo.refl w
  refine WC.seq<|WC.region ?_
  refine WL.q rfl (r_assign rfl) ?_
  refine WL.nil ?_
  refine WC.seq<|WC.seq<|WC.regionD [(true,0),(true,1),(true,2),(true,3),(true,4),(true,5),(true,6),(true,7),(true,8),(true,9)] (Ext _) mixed (by kernel_rfl) (Ext.drew _) ?_
  have nd1w:w.drew.heap.size=w.heap.size:=rfl
  refine WD.q rfl (fun _ hS=>r_move rfl) ?_
  refine WD.q rfl (fun _ hS=>r_nilp rfl) ?_
  refine WD.q rfl (fun _ hS=>r_fieldAddr rfl fo_61_1) ?_
  refine WD.q rfl (fun _ hS=>r_load one_3 rfl hS (hK.get rfl)) ?_
  refine WD.q rfl (fun _ hS=>r_move rfl) ?_
  refine WD.q rfl (fun _ hS=>r_nilp rfl) ?_
  refine WD.q rfl (fun _ hS=>r_fieldAddr rfl fo_61_0) ?_
  refine WD.q rfl (fun _ hS=>r_load one_9 rfl hS (hK.get rfl)) ?_
  refine WD.q rfl (fun _ hS=>r_lens str_9 rfl) ?_
  refine WD.q rfl (fun _ hS=>r_cmp (r_geq rfl rfl) (decide_eq_false (by(omega)))) ?_
  refine WD.nil ?_
  refine WC.condF rfl ?_
  refine WC.skip ?_
  replace hK:=hK.mono (Ext.drew _)
  refine WC.seq<|WC.regionD [(true,0),(true,1),(true,2),(true,3),(true,4),(true,5),(true,6),(true,7),(true,8),(true,9)] (Ext _) mixed (by kernel_rfl) (Ext.drew _) ?_
  have nd2w:w.drew.drew.heap.size=w.heap.size:=rfl
  have nd1w:w.drew.heap.size=w.heap.size:=rfl
  refine WD.q rfl (fun _ hS=>r_move rfl) ?_
  refine WD.q rfl (fun _ hS=>r_nilp rfl) ?_
  refine WD.q rfl (fun _ hS=>r_fieldAddr rfl fo_61_0) ?_
  refine WD.q rfl (fun _ hS=>r_load one_9 rfl hS (hK.get rfl)) ?_
  refine WD.q rfl (fun _ hS=>r_move rfl) ?_
  refine WD.q rfl (fun _ hS=>r_nilp rfl) ?_
  refine WD.q rfl (fun _ hS=>r_fieldAddr rfl fo_61_1) ?_
  refine WD.q rfl (fun _ hS=>r_load one_3 rfl hS (hK.get rfl)) ?_
  refine WD.q rfl (fun _ hS=>r_idxs str_9 rfl rfl rfl (by assumption)) ?_
  refine WD.q rfl (fun _ hS=>r_assign rfl) ?_
  refine WD.nil ?_
  refine WC.seq<|WC.region ?_
  refine WL.q rfl (r_move rfl) ?_
  refine WL.q rfl (r_nilp rfl) ?_
  refine WL.q rfl (r_fieldAddr rfl fo_61_1) ?_
  replace hK:=hK.mono (Ext.drew _)
  refine WL.q rfl (r_load one_3 rfl (Ext.refl _) (hK.get rfl)) ?_
  refine WL.q rfl (r_addi rfl rfl rfl (by omega) (by omega)) ?_
  refine WL.q rfl (r_nilp rfl) ?_
  refine WL.q rfl (r_fieldAddr rfl fo_61_1) ?_
  refine WL.l0 (l_store sz_3 rfl rfl (by first|rfl|assumption|exact Own.one (by assumption)) hK rfl) fun _ w1 hh=>?_
  obtain⟨hK,e1,hz1⟩:=hh
  have ns1:w.heap.size≤w1.heap.size:=e1.size
  refine WL.nil ?_
  refine WC.seq<|WC.seq<|WC.region ?_
  refine WL.q rfl (r_move rfl) ?_
  refine WL.nil ?_
  refine WC.block ?_
  refine WC.seq<|WC.seq<|WC.region ?_
  refine WL.q rfl (r_cmp (r_eql rfl rfl) (beqT (by(rfl)))) ?_
  refine WL.q rfl (r_assign rfl) ?_
  refine WL.nil ?_
  refine WC.condT rfl ?_
  refine WC.skip ?_
  refine WC.condT rfl ?_
  refine WC.seq<|WC.region ?_
  refine WL.q rfl (r_move rfl) ?_
  replace he:=((he.then (Ext.drew _)).then (Ext.drew _)).then e1
  have hs2:=he.size
  refine WL.l rfl (l_lit (vs:=[_]) slz_27 rfl (by first|rfl|(simp[Value.cells,Nat.beq_eq, *];done)) rfl rfl rfl) fun _ w2 hh=>?_
  obtain⟨rfl,hb2,e2⟩:=hh
  have ns2:w1.heap.size≤w2.heap.size:=e2.size
  refine WL.q rfl (r_assign rfl) ?_
  refine WL.nil ?_
  refine WC.ret ?_
  replace hK:=hK.mono e2
  replace he:=he.then e2
  exact fin1 rfl ⟨⟨_,_,rfl,by simp,fun _=>⟨_,_,rfl,by dsimp only;omega,fun j hj=>match j,hj with|0,_=>hb2.get (j:=0) rfl|j+1,h=>absurd h (by simp)⟩⟩,hK,he⟩
theorem esc_92{jb p:Nat}{s r:List UInt8}{w:World}(hK:Jt w jb s p)(hd:s.drop p=92::r)(hs:s.length≤1000000000000):
    Does Tryz.prog 38 [.pointer (some ⟨jb,0,none⟩)] w fun u w'=>IsB (fun k=>w.heap.size≤k) w' u [92]∧Jt w' jb s (p+1)∧Evo (fun k=>k≠jb) w w':=by
  have hsz:({data:=s.toArray}:ByteArray).size=s.length:=rfl
  obtain⟨hp,hb1,_⟩:=drop_c hd
  have hlt:=hK.lt
  unfold Jt at hK⊢
  refine does1 Tryz.func38 rfl rfl rfl ?_
  have he:Evo (fun k=>k≠jb) w w:=Evo.refl w
  refine WC.seq<|WC.region ?_
  refine WL.q rfl (r_assign rfl) ?_
  refine WL.nil ?_
  refine WC.seq<|WC.seq<|WC.regionD [(true,0),(true,1),(true,2),(true,3),(true,4),(true,5),(true,6),(true,7),(true,8),(true,9)] (Ext _) mixed (by kernel_rfl) (Ext.drew _) ?_
  have nd1w:w.drew.heap.size=w.heap.size:=rfl
  refine WD.q rfl (fun _ hS=>r_move rfl) ?_
  refine WD.q rfl (fun _ hS=>r_nilp rfl) ?_
  refine WD.q rfl (fun _ hS=>r_fieldAddr rfl fo_61_1) ?_
  refine WD.q rfl (fun _ hS=>r_load one_3 rfl hS (hK.get rfl)) ?_
  refine WD.q rfl (fun _ hS=>r_move rfl) ?_
  refine WD.q rfl (fun _ hS=>r_nilp rfl) ?_
  refine WD.q rfl (fun _ hS=>r_fieldAddr rfl fo_61_0) ?_
  refine WD.q rfl (fun _ hS=>r_load one_9 rfl hS (hK.get rfl)) ?_
  refine WD.q rfl (fun _ hS=>r_lens str_9 rfl) ?_
  refine WD.q rfl (fun _ hS=>r_cmp (r_geq rfl rfl) (decide_eq_false (by(omega)))) ?_
  refine WD.nil ?_
  refine WC.condF rfl ?_
  refine WC.skip ?_
  replace hK:=hK.mono (Ext.drew _)
  refine WC.seq<|WC.regionD [(true,0),(true,1),(true,2),(true,3),(true,4),(true,5),(true,6),(true,7),(true,8),(true,9)] (Ext _) mixed (by kernel_rfl) (Ext.drew _) ?_
  have nd2w:w.drew.drew.heap.size=w.heap.size:=rfl
  have nd1w:w.drew.heap.size=w.heap.size:=rfl
  refine WD.q rfl (fun _ hS=>r_move rfl) ?_
  refine WD.q rfl (fun _ hS=>r_nilp rfl) ?_
  refine WD.q rfl (fun _ hS=>r_fieldAddr rfl fo_61_0) ?_
  refine WD.q rfl (fun _ hS=>r_load one_9 rfl hS (hK.get rfl)) ?_
  refine WD.q rfl (fun _ hS=>r_move rfl) ?_
  refine WD.q rfl (fun _ hS=>r_nilp rfl) ?_
  refine WD.q rfl (fun _ hS=>r_fieldAddr rfl fo_61_1) ?_
  refine WD.q rfl (fun _ hS=>r_load one_3 rfl hS (hK.get rfl)) ?_
  refine WD.q rfl (fun _ hS=>r_idxs str_9 rfl rfl rfl (by assumption)) ?_
  refine WD.q rfl (fun _ hS=>r_assign rfl) ?_
  refine WD.nil ?_
  refine WC.seq<|WC.region ?_
  refine WL.q rfl (r_move rfl) ?_
  refine WL.q rfl (r_nilp rfl) ?_
  refine WL.q rfl (r_fieldAddr rfl fo_61_1) ?_
  replace hK:=hK.mono (Ext.drew _)
  refine WL.q rfl (r_load one_3 rfl (Ext.refl _) (hK.get rfl)) ?_
  refine WL.q rfl (r_addi rfl rfl rfl (by omega) (by omega)) ?_
  refine WL.q rfl (r_nilp rfl) ?_
  refine WL.q rfl (r_fieldAddr rfl fo_61_1) ?_
  refine WL.l0 (l_store sz_3 rfl rfl (by first|rfl|assumption|exact Own.one (by assumption)) hK rfl) fun _ w1 hh=>?_
  obtain⟨hK,e1,hz1⟩:=hh
  have ns1:w.heap.size≤w1.heap.size:=e1.size
  refine WL.nil ?_
  refine WC.seq<|WC.seq<|WC.region ?_
  refine WL.q rfl (r_move rfl) ?_
  refine WL.nil ?_
  refine WC.block ?_
  refine WC.seq<|WC.seq<|WC.region ?_
  refine WL.q rfl (r_cmp (r_eql rfl rfl) (beqF (by(decide)))) ?_
  refine WL.q rfl (r_assign rfl) ?_
  refine WL.nil ?_
  refine WC.condF rfl ?_
  refine WC.seq<|WC.region ?_
  refine WL.q rfl (r_cmp (r_eql rfl rfl) (beqT (by(rfl)))) ?_
  refine WL.q rfl (r_assign rfl) ?_
  refine WL.nil ?_
  refine WC.condT rfl ?_
  refine WC.skip ?_
  refine WC.condT rfl ?_
  refine WC.seq<|WC.region ?_
  refine WL.q rfl (r_move rfl) ?_
  replace he:=((he.then (Ext.drew _)).then (Ext.drew _)).then e1
  have hs2:=he.size
  refine WL.l rfl (l_lit (vs:=[_]) slz_27 rfl (by first|rfl|(simp[Value.cells,Nat.beq_eq, *];done)) rfl rfl rfl) fun _ w2 hh=>?_
  obtain⟨rfl,hb2,e2⟩:=hh
  have ns2:w1.heap.size≤w2.heap.size:=e2.size
  refine WL.q rfl (r_assign rfl) ?_
  refine WL.nil ?_
  refine WC.ret ?_
  replace hK:=hK.mono e2
  replace he:=he.then e2
  exact fin1 rfl ⟨⟨_,_,rfl,by simp,fun _=>⟨_,_,rfl,by dsimp only;omega,fun j hj=>match j,hj with|0,_=>hb2.get (j:=0) rfl|j+1,h=>absurd h (by simp)⟩⟩,hK,he⟩
theorem esc_10{jb p:Nat}{s r:List UInt8}{w:World}(hK:Jt w jb s p)(hd:s.drop p=110::r)(hs:s.length≤1000000000000):
    Does Tryz.prog 38 [.pointer (some ⟨jb,0,none⟩)] w fun u w'=>IsB (fun k=>w.heap.size≤k) w' u [10]∧Jt w' jb s (p+1)∧Evo (fun k=>k≠jb) w w':=by
  have hsz:({data:=s.toArray}:ByteArray).size=s.length:=rfl
  obtain⟨hp,hb1,_⟩:=drop_c hd
  have hlt:=hK.lt
  unfold Jt at hK⊢
  refine does1 Tryz.func38 rfl rfl rfl ?_
  have he:Evo (fun k=>k≠jb) w w:=Evo.refl w
  refine WC.seq<|WC.region ?_
  refine WL.q rfl (r_assign rfl) ?_
  refine WL.nil ?_
  refine WC.seq<|WC.seq<|WC.regionD [(true,0),(true,1),(true,2),(true,3),(true,4),(true,5),(true,6),(true,7),(true,8),(true,9)] (Ext _) mixed (by kernel_rfl) (Ext.drew _) ?_
  have nd1w:w.drew.heap.size=w.heap.size:=rfl
  refine WD.q rfl (fun _ hS=>r_move rfl) ?_
  refine WD.q rfl (fun _ hS=>r_nilp rfl) ?_
  refine WD.q rfl (fun _ hS=>r_fieldAddr rfl fo_61_1) ?_
  refine WD.q rfl (fun _ hS=>r_load one_3 rfl hS (hK.get rfl)) ?_
  refine WD.q rfl (fun _ hS=>r_move rfl) ?_
  refine WD.q rfl (fun _ hS=>r_nilp rfl) ?_
  refine WD.q rfl (fun _ hS=>r_fieldAddr rfl fo_61_0) ?_
  refine WD.q rfl (fun _ hS=>r_load one_9 rfl hS (hK.get rfl)) ?_
  refine WD.q rfl (fun _ hS=>r_lens str_9 rfl) ?_
  refine WD.q rfl (fun _ hS=>r_cmp (r_geq rfl rfl) (decide_eq_false (by(omega)))) ?_
  refine WD.nil ?_
  refine WC.condF rfl ?_
  refine WC.skip ?_
  replace hK:=hK.mono (Ext.drew _)
  refine WC.seq<|WC.regionD [(true,0),(true,1),(true,2),(true,3),(true,4),(true,5),(true,6),(true,7),(true,8),(true,9)] (Ext _) mixed (by kernel_rfl) (Ext.drew _) ?_
  have nd2w:w.drew.drew.heap.size=w.heap.size:=rfl
  have nd1w:w.drew.heap.size=w.heap.size:=rfl
  refine WD.q rfl (fun _ hS=>r_move rfl) ?_
  refine WD.q rfl (fun _ hS=>r_nilp rfl) ?_
  refine WD.q rfl (fun _ hS=>r_fieldAddr rfl fo_61_0) ?_
  refine WD.q rfl (fun _ hS=>r_load one_9 rfl hS (hK.get rfl)) ?_
  refine WD.q rfl (fun _ hS=>r_move rfl) ?_
  refine WD.q rfl (fun _ hS=>r_nilp rfl) ?_
  refine WD.q rfl (fun _ hS=>r_fieldAddr rfl fo_61_1) ?_
  refine WD.q rfl (fun _ hS=>r_load one_3 rfl hS (hK.get rfl)) ?_
  refine WD.q rfl (fun _ hS=>r_idxs str_9 rfl rfl rfl (by assumption)) ?_
  refine WD.q rfl (fun _ hS=>r_assign rfl) ?_
  refine WD.nil ?_
  refine WC.seq<|WC.region ?_
  refine WL.q rfl (r_move rfl) ?_
  refine WL.q rfl (r_nilp rfl) ?_
  refine WL.q rfl (r_fieldAddr rfl fo_61_1) ?_
  replace hK:=hK.mono (Ext.drew _)
  refine WL.q rfl (r_load one_3 rfl (Ext.refl _) (hK.get rfl)) ?_
  refine WL.q rfl (r_addi rfl rfl rfl (by omega) (by omega)) ?_
  refine WL.q rfl (r_nilp rfl) ?_
  refine WL.q rfl (r_fieldAddr rfl fo_61_1) ?_
  refine WL.l0 (l_store sz_3 rfl rfl (by first|rfl|assumption|exact Own.one (by assumption)) hK rfl) fun _ w1 hh=>?_
  obtain⟨hK,e1,hz1⟩:=hh
  have ns1:w.heap.size≤w1.heap.size:=e1.size
  refine WL.nil ?_
  refine WC.seq<|WC.seq<|WC.region ?_
  refine WL.q rfl (r_move rfl) ?_
  refine WL.nil ?_
  refine WC.block ?_
  refine WC.seq<|WC.seq<|WC.region ?_
  refine WL.q rfl (r_cmp (r_eql rfl rfl) (beqF (by(decide)))) ?_
  refine WL.q rfl (r_assign rfl) ?_
  refine WL.nil ?_
  refine WC.condF rfl ?_
  refine WC.seq<|WC.region ?_
  refine WL.q rfl (r_cmp (r_eql rfl rfl) (beqF (by(decide)))) ?_
  refine WL.q rfl (r_assign rfl) ?_
  refine WL.nil ?_
  refine WC.condF rfl ?_
  refine WC.region ?_
  refine WL.q rfl (r_cmp (r_eql rfl rfl) (beqF (by(decide)))) ?_
  refine WL.q rfl (r_assign rfl) ?_
  refine WL.nil ?_
  refine WC.condF rfl ?_
  refine WC.seq<|WC.region ?_
  refine WL.q rfl (r_cmp (r_eql rfl rfl) (beqF (by(decide)))) ?_
  refine WL.q rfl (r_assign rfl) ?_
  refine WL.nil ?_
  refine WC.condF rfl ?_
  refine WC.seq<|WC.region ?_
  refine WL.q rfl (r_cmp (r_eql rfl rfl) (beqF (by(decide)))) ?_
  refine WL.q rfl (r_assign rfl) ?_
  refine WL.nil ?_
  refine WC.condF rfl ?_
  refine WC.seq<|WC.region ?_
  refine WL.q rfl (r_cmp (r_eql rfl rfl) (beqT (by(rfl)))) ?_
  refine WL.q rfl (r_assign rfl) ?_
  refine WL.nil ?_
  refine WC.condT rfl ?_
  refine WC.seq<|WC.region ?_
  replace he:=((he.then (Ext.drew _)).then (Ext.drew _)).then e1
  have hs2:=he.size
  refine WL.l rfl (l_lit (vs:=[_]) slz_27 rfl (by first|rfl|(simp[Value.cells,Nat.beq_eq, *];done)) rfl rfl rfl) fun _ w2 hh=>?_
  obtain⟨rfl,hb2,e2⟩:=hh
  have ns2:w1.heap.size≤w2.heap.size:=e2.size
  refine WL.q rfl (r_assign rfl) ?_
  refine WL.nil ?_
  refine WC.ret ?_
  replace hK:=hK.mono e2
  replace he:=he.then e2
  exact fin1 rfl ⟨⟨_,_,rfl,by simp,fun _=>⟨_,_,rfl,by dsimp only;omega,fun j hj=>match j,hj with|0,_=>hb2.get (j:=0) rfl|j+1,h=>absurd h (by simp)⟩⟩,hK,he⟩
theorem esc_13{jb p:Nat}{s r:List UInt8}{w:World}(hK:Jt w jb s p)(hd:s.drop p=114::r)(hs:s.length≤1000000000000):
    Does Tryz.prog 38 [.pointer (some ⟨jb,0,none⟩)] w fun u w'=>IsB (fun k=>w.heap.size≤k) w' u [13]∧Jt w' jb s (p+1)∧Evo (fun k=>k≠jb) w w':=by
  have hsz:({data:=s.toArray}:ByteArray).size=s.length:=rfl
  obtain⟨hp,hb1,_⟩:=drop_c hd
  have hlt:=hK.lt
  unfold Jt at hK⊢
  refine does1 Tryz.func38 rfl rfl rfl ?_
  have he:Evo (fun k=>k≠jb) w w:=Evo.refl w
  refine WC.seq<|WC.region ?_
  refine WL.q rfl (r_assign rfl) ?_
  refine WL.nil ?_
  refine WC.seq<|WC.seq<|WC.regionD [(true,0),(true,1),(true,2),(true,3),(true,4),(true,5),(true,6),(true,7),(true,8),(true,9)] (Ext _) mixed (by kernel_rfl) (Ext.drew _) ?_
  have nd1w:w.drew.heap.size=w.heap.size:=rfl
  refine WD.q rfl (fun _ hS=>r_move rfl) ?_
  refine WD.q rfl (fun _ hS=>r_nilp rfl) ?_
  refine WD.q rfl (fun _ hS=>r_fieldAddr rfl fo_61_1) ?_
  refine WD.q rfl (fun _ hS=>r_load one_3 rfl hS (hK.get rfl)) ?_
  refine WD.q rfl (fun _ hS=>r_move rfl) ?_
  refine WD.q rfl (fun _ hS=>r_nilp rfl) ?_
  refine WD.q rfl (fun _ hS=>r_fieldAddr rfl fo_61_0) ?_
  refine WD.q rfl (fun _ hS=>r_load one_9 rfl hS (hK.get rfl)) ?_
  refine WD.q rfl (fun _ hS=>r_lens str_9 rfl) ?_
  refine WD.q rfl (fun _ hS=>r_cmp (r_geq rfl rfl) (decide_eq_false (by(omega)))) ?_
  refine WD.nil ?_
  refine WC.condF rfl ?_
  refine WC.skip ?_
  replace hK:=hK.mono (Ext.drew _)
  refine WC.seq<|WC.regionD [(true,0),(true,1),(true,2),(true,3),(true,4),(true,5),(true,6),(true,7),(true,8),(true,9)] (Ext _) mixed (by kernel_rfl) (Ext.drew _) ?_
  have nd2w:w.drew.drew.heap.size=w.heap.size:=rfl
  have nd1w:w.drew.heap.size=w.heap.size:=rfl
  refine WD.q rfl (fun _ hS=>r_move rfl) ?_
  refine WD.q rfl (fun _ hS=>r_nilp rfl) ?_
  refine WD.q rfl (fun _ hS=>r_fieldAddr rfl fo_61_0) ?_
  refine WD.q rfl (fun _ hS=>r_load one_9 rfl hS (hK.get rfl)) ?_
  refine WD.q rfl (fun _ hS=>r_move rfl) ?_
  refine WD.q rfl (fun _ hS=>r_nilp rfl) ?_
  refine WD.q rfl (fun _ hS=>r_fieldAddr rfl fo_61_1) ?_
  refine WD.q rfl (fun _ hS=>r_load one_3 rfl hS (hK.get rfl)) ?_
  refine WD.q rfl (fun _ hS=>r_idxs str_9 rfl rfl rfl (by assumption)) ?_
  refine WD.q rfl (fun _ hS=>r_assign rfl) ?_
  refine WD.nil ?_
  refine WC.seq<|WC.region ?_
  refine WL.q rfl (r_move rfl) ?_
  refine WL.q rfl (r_nilp rfl) ?_
  refine WL.q rfl (r_fieldAddr rfl fo_61_1) ?_
  replace hK:=hK.mono (Ext.drew _)
  refine WL.q rfl (r_load one_3 rfl (Ext.refl _) (hK.get rfl)) ?_
  refine WL.q rfl (r_addi rfl rfl rfl (by omega) (by omega)) ?_
  refine WL.q rfl (r_nilp rfl) ?_
  refine WL.q rfl (r_fieldAddr rfl fo_61_1) ?_
  refine WL.l0 (l_store sz_3 rfl rfl (by first|rfl|assumption|exact Own.one (by assumption)) hK rfl) fun _ w1 hh=>?_
  obtain⟨hK,e1,hz1⟩:=hh
  have ns1:w.heap.size≤w1.heap.size:=e1.size
  refine WL.nil ?_
  refine WC.seq<|WC.seq<|WC.region ?_
  refine WL.q rfl (r_move rfl) ?_
  refine WL.nil ?_
  refine WC.block ?_
  refine WC.seq<|WC.seq<|WC.region ?_
  refine WL.q rfl (r_cmp (r_eql rfl rfl) (beqF (by(decide)))) ?_
  refine WL.q rfl (r_assign rfl) ?_
  refine WL.nil ?_
  refine WC.condF rfl ?_
  refine WC.seq<|WC.region ?_
  refine WL.q rfl (r_cmp (r_eql rfl rfl) (beqF (by(decide)))) ?_
  refine WL.q rfl (r_assign rfl) ?_
  refine WL.nil ?_
  refine WC.condF rfl ?_
  refine WC.region ?_
  refine WL.q rfl (r_cmp (r_eql rfl rfl) (beqF (by(decide)))) ?_
  refine WL.q rfl (r_assign rfl) ?_
  refine WL.nil ?_
  refine WC.condF rfl ?_
  refine WC.seq<|WC.region ?_
  refine WL.q rfl (r_cmp (r_eql rfl rfl) (beqF (by(decide)))) ?_
  refine WL.q rfl (r_assign rfl) ?_
  refine WL.nil ?_
  refine WC.condF rfl ?_
  refine WC.seq<|WC.region ?_
  refine WL.q rfl (r_cmp (r_eql rfl rfl) (beqF (by(decide)))) ?_
  refine WL.q rfl (r_assign rfl) ?_
  refine WL.nil ?_
  refine WC.condF rfl ?_
  refine WC.seq<|WC.region ?_
  refine WL.q rfl (r_cmp (r_eql rfl rfl) (beqF (by(decide)))) ?_
  refine WL.q rfl (r_assign rfl) ?_
  refine WL.nil ?_
  refine WC.condF rfl ?_
  refine WC.seq<|WC.region ?_
  refine WL.q rfl (r_cmp (r_eql rfl rfl) (beqT (by(rfl)))) ?_
  refine WL.q rfl (r_assign rfl) ?_
  refine WL.nil ?_
  refine WC.condT rfl ?_
  refine WC.seq<|WC.region ?_
  replace he:=((he.then (Ext.drew _)).then (Ext.drew _)).then e1
  have hs2:=he.size
  refine WL.l rfl (l_lit (vs:=[_]) slz_27 rfl (by first|rfl|(simp[Value.cells,Nat.beq_eq, *];done)) rfl rfl rfl) fun _ w2 hh=>?_
  obtain⟨rfl,hb2,e2⟩:=hh
  have ns2:w1.heap.size≤w2.heap.size:=e2.size
  refine WL.q rfl (r_assign rfl) ?_
  refine WL.nil ?_
  refine WC.ret ?_
  replace hK:=hK.mono e2
  replace he:=he.then e2
  exact fin1 rfl ⟨⟨_,_,rfl,by simp,fun _=>⟨_,_,rfl,by dsimp only;omega,fun j hj=>match j,hj with|0,_=>hb2.get (j:=0) rfl|j+1,h=>absurd h (by simp)⟩⟩,hK,he⟩
theorem esc_9{jb p:Nat}{s r:List UInt8}{w:World}(hK:Jt w jb s p)(hd:s.drop p=116::r)(hs:s.length≤1000000000000):
    Does Tryz.prog 38 [.pointer (some ⟨jb,0,none⟩)] w fun u w'=>IsB (fun k=>w.heap.size≤k) w' u [9]∧Jt w' jb s (p+1)∧Evo (fun k=>k≠jb) w w':=by
  have hsz:({data:=s.toArray}:ByteArray).size=s.length:=rfl
  obtain⟨hp,hb1,_⟩:=drop_c hd
  have hlt:=hK.lt
  unfold Jt at hK⊢
  refine does1 Tryz.func38 rfl rfl rfl ?_
  have he:Evo (fun k=>k≠jb) w w:=Evo.refl w
  refine WC.seq<|WC.region ?_
  refine WL.q rfl (r_assign rfl) ?_
  refine WL.nil ?_
  refine WC.seq<|WC.seq<|WC.regionD [(true,0),(true,1),(true,2),(true,3),(true,4),(true,5),(true,6),(true,7),(true,8),(true,9)] (Ext _) mixed (by kernel_rfl) (Ext.drew _) ?_
  have nd1w:w.drew.heap.size=w.heap.size:=rfl
  refine WD.q rfl (fun _ hS=>r_move rfl) ?_
  refine WD.q rfl (fun _ hS=>r_nilp rfl) ?_
  refine WD.q rfl (fun _ hS=>r_fieldAddr rfl fo_61_1) ?_
  refine WD.q rfl (fun _ hS=>r_load one_3 rfl hS (hK.get rfl)) ?_
  refine WD.q rfl (fun _ hS=>r_move rfl) ?_
  refine WD.q rfl (fun _ hS=>r_nilp rfl) ?_
  refine WD.q rfl (fun _ hS=>r_fieldAddr rfl fo_61_0) ?_
  refine WD.q rfl (fun _ hS=>r_load one_9 rfl hS (hK.get rfl)) ?_
  refine WD.q rfl (fun _ hS=>r_lens str_9 rfl) ?_
  refine WD.q rfl (fun _ hS=>r_cmp (r_geq rfl rfl) (decide_eq_false (by(omega)))) ?_
  refine WD.nil ?_
  refine WC.condF rfl ?_
  refine WC.skip ?_
  replace hK:=hK.mono (Ext.drew _)
  refine WC.seq<|WC.regionD [(true,0),(true,1),(true,2),(true,3),(true,4),(true,5),(true,6),(true,7),(true,8),(true,9)] (Ext _) mixed (by kernel_rfl) (Ext.drew _) ?_
  have nd2w:w.drew.drew.heap.size=w.heap.size:=rfl
  have nd1w:w.drew.heap.size=w.heap.size:=rfl
  refine WD.q rfl (fun _ hS=>r_move rfl) ?_
  refine WD.q rfl (fun _ hS=>r_nilp rfl) ?_
  refine WD.q rfl (fun _ hS=>r_fieldAddr rfl fo_61_0) ?_
  refine WD.q rfl (fun _ hS=>r_load one_9 rfl hS (hK.get rfl)) ?_
  refine WD.q rfl (fun _ hS=>r_move rfl) ?_
  refine WD.q rfl (fun _ hS=>r_nilp rfl) ?_
  refine WD.q rfl (fun _ hS=>r_fieldAddr rfl fo_61_1) ?_
  refine WD.q rfl (fun _ hS=>r_load one_3 rfl hS (hK.get rfl)) ?_
  refine WD.q rfl (fun _ hS=>r_idxs str_9 rfl rfl rfl (by assumption)) ?_
  refine WD.q rfl (fun _ hS=>r_assign rfl) ?_
  refine WD.nil ?_
  refine WC.seq<|WC.region ?_
  refine WL.q rfl (r_move rfl) ?_
  refine WL.q rfl (r_nilp rfl) ?_
  refine WL.q rfl (r_fieldAddr rfl fo_61_1) ?_
  replace hK:=hK.mono (Ext.drew _)
  refine WL.q rfl (r_load one_3 rfl (Ext.refl _) (hK.get rfl)) ?_
  refine WL.q rfl (r_addi rfl rfl rfl (by omega) (by omega)) ?_
  refine WL.q rfl (r_nilp rfl) ?_
  refine WL.q rfl (r_fieldAddr rfl fo_61_1) ?_
  refine WL.l0 (l_store sz_3 rfl rfl (by first|rfl|assumption|exact Own.one (by assumption)) hK rfl) fun _ w1 hh=>?_
  obtain⟨hK,e1,hz1⟩:=hh
  have ns1:w.heap.size≤w1.heap.size:=e1.size
  refine WL.nil ?_
  refine WC.seq<|WC.seq<|WC.region ?_
  refine WL.q rfl (r_move rfl) ?_
  refine WL.nil ?_
  refine WC.block ?_
  refine WC.seq<|WC.seq<|WC.region ?_
  refine WL.q rfl (r_cmp (r_eql rfl rfl) (beqF (by(decide)))) ?_
  refine WL.q rfl (r_assign rfl) ?_
  refine WL.nil ?_
  refine WC.condF rfl ?_
  refine WC.seq<|WC.region ?_
  refine WL.q rfl (r_cmp (r_eql rfl rfl) (beqF (by(decide)))) ?_
  refine WL.q rfl (r_assign rfl) ?_
  refine WL.nil ?_
  refine WC.condF rfl ?_
  refine WC.region ?_
  refine WL.q rfl (r_cmp (r_eql rfl rfl) (beqF (by(decide)))) ?_
  refine WL.q rfl (r_assign rfl) ?_
  refine WL.nil ?_
  refine WC.condF rfl ?_
  refine WC.seq<|WC.region ?_
  refine WL.q rfl (r_cmp (r_eql rfl rfl) (beqF (by(decide)))) ?_
  refine WL.q rfl (r_assign rfl) ?_
  refine WL.nil ?_
  refine WC.condF rfl ?_
  refine WC.seq<|WC.region ?_
  refine WL.q rfl (r_cmp (r_eql rfl rfl) (beqF (by(decide)))) ?_
  refine WL.q rfl (r_assign rfl) ?_
  refine WL.nil ?_
  refine WC.condF rfl ?_
  refine WC.seq<|WC.region ?_
  refine WL.q rfl (r_cmp (r_eql rfl rfl) (beqF (by(decide)))) ?_
  refine WL.q rfl (r_assign rfl) ?_
  refine WL.nil ?_
  refine WC.condF rfl ?_
  refine WC.seq<|WC.region ?_
  refine WL.q rfl (r_cmp (r_eql rfl rfl) (beqF (by(decide)))) ?_
  refine WL.q rfl (r_assign rfl) ?_
  refine WL.nil ?_
  refine WC.condF rfl ?_
  refine WC.seq<|WC.region ?_
  refine WL.q rfl (r_cmp (r_eql rfl rfl) (beqT (by(rfl)))) ?_
  refine WL.q rfl (r_assign rfl) ?_
  refine WL.nil ?_
  refine WC.condT rfl ?_
  refine WC.seq<|WC.region ?_
  replace he:=((he.then (Ext.drew _)).then (Ext.drew _)).then e1
  have hs2:=he.size
  refine WL.l rfl (l_lit (vs:=[_]) slz_27 rfl (by first|rfl|(simp[Value.cells,Nat.beq_eq, *];done)) rfl rfl rfl) fun _ w2 hh=>?_
  obtain⟨rfl,hb2,e2⟩:=hh
  have ns2:w1.heap.size≤w2.heap.size:=e2.size
  refine WL.q rfl (r_assign rfl) ?_
  refine WL.nil ?_
  refine WC.ret ?_
  replace hK:=hK.mono e2
  replace he:=he.then e2
  exact fin1 rfl ⟨⟨_,_,rfl,by simp,fun _=>⟨_,_,rfl,by dsimp only;omega,fun j hj=>match j,hj with|0,_=>hb2.get (j:=0) rfl|j+1,h=>absurd h (by simp)⟩⟩,hK,he⟩
theorem esc_hex{jb p:Nat}{s r:List UInt8}{b:UInt8}{w:World}(hb:b.toNat<128)(hK:Jt w jb s p)(hd:s.drop p=117::48::48::hx (b.toNat / 16)::hx (b.toNat%16)::r)(hs:s.length≤1000000000000):
    Does Tryz.prog 38 [.pointer (some ⟨jb,0,none⟩)] w fun u w'=>IsB (fun k=>w.heap.size≤k) w' u [b]∧Jt w' jb s (p+5)∧Evo (fun k=>k≠jb) w w':=by
  have hv4:hv [0,0,b.toNat / 16,b.toNat%16]=b.toNat:=by simp[hv];omega
  have hsz:({data:=s.toArray}:ByteArray).size=s.length:=rfl
  obtain⟨hp,hb1,_⟩:=drop_c hd
  have hlt:=hK.lt
  unfold Jt at hK⊢
  refine does1 Tryz.func38 rfl rfl rfl ?_
  have he:Evo (fun k=>k≠jb) w w:=Evo.refl w
  have hd2:s.drop (p+1)=[0,0,b.toNat / 16,b.toNat%16].map hx++r:=by rw[(drop_c hd).2.2];rfl
  refine WC.seq<|WC.region ?_
  refine WL.q rfl (r_assign rfl) ?_
  refine WL.nil ?_
  refine WC.seq<|WC.seq<|WC.regionD [(true,0),(true,1),(true,2),(true,3),(true,4),(true,5),(true,6),(true,7),(true,8),(true,9)] (Ext _) mixed (by kernel_rfl) (Ext.drew _) ?_
  have nd1w:w.drew.heap.size=w.heap.size:=rfl
  refine WD.q rfl (fun _ hS=>r_move rfl) ?_
  refine WD.q rfl (fun _ hS=>r_nilp rfl) ?_
  refine WD.q rfl (fun _ hS=>r_fieldAddr rfl fo_61_1) ?_
  refine WD.q rfl (fun _ hS=>r_load one_3 rfl hS (hK.get rfl)) ?_
  refine WD.q rfl (fun _ hS=>r_move rfl) ?_
  refine WD.q rfl (fun _ hS=>r_nilp rfl) ?_
  refine WD.q rfl (fun _ hS=>r_fieldAddr rfl fo_61_0) ?_
  refine WD.q rfl (fun _ hS=>r_load one_9 rfl hS (hK.get rfl)) ?_
  refine WD.q rfl (fun _ hS=>r_lens str_9 rfl) ?_
  refine WD.q rfl (fun _ hS=>r_cmp (r_geq rfl rfl) (decide_eq_false (by(omega)))) ?_
  refine WD.nil ?_
  refine WC.condF rfl ?_
  refine WC.skip ?_
  replace hK:=hK.mono (Ext.drew _)
  refine WC.seq<|WC.regionD [(true,0),(true,1),(true,2),(true,3),(true,4),(true,5),(true,6),(true,7),(true,8),(true,9)] (Ext _) mixed (by kernel_rfl) (Ext.drew _) ?_
  have nd2w:w.drew.drew.heap.size=w.heap.size:=rfl
  have nd1w:w.drew.heap.size=w.heap.size:=rfl
  refine WD.q rfl (fun _ hS=>r_move rfl) ?_
  refine WD.q rfl (fun _ hS=>r_nilp rfl) ?_
  refine WD.q rfl (fun _ hS=>r_fieldAddr rfl fo_61_0) ?_
  refine WD.q rfl (fun _ hS=>r_load one_9 rfl hS (hK.get rfl)) ?_
  refine WD.q rfl (fun _ hS=>r_move rfl) ?_
  refine WD.q rfl (fun _ hS=>r_nilp rfl) ?_
  refine WD.q rfl (fun _ hS=>r_fieldAddr rfl fo_61_1) ?_
  refine WD.q rfl (fun _ hS=>r_load one_3 rfl hS (hK.get rfl)) ?_
  refine WD.q rfl (fun _ hS=>r_idxs str_9 rfl rfl rfl (by assumption)) ?_
  refine WD.q rfl (fun _ hS=>r_assign rfl) ?_
  refine WD.nil ?_
  refine WC.seq<|WC.region ?_
  refine WL.q rfl (r_move rfl) ?_
  refine WL.q rfl (r_nilp rfl) ?_
  refine WL.q rfl (r_fieldAddr rfl fo_61_1) ?_
  replace hK:=hK.mono (Ext.drew _)
  refine WL.q rfl (r_load one_3 rfl (Ext.refl _) (hK.get rfl)) ?_
  refine WL.q rfl (r_addi rfl rfl rfl (by omega) (by omega)) ?_
  refine WL.q rfl (r_nilp rfl) ?_
  refine WL.q rfl (r_fieldAddr rfl fo_61_1) ?_
  refine WL.l0 (l_store sz_3 rfl rfl (by first|rfl|assumption|exact Own.one (by assumption)) hK rfl) fun _ w1 hh=>?_
  obtain⟨hK,e1,hz1⟩:=hh
  have ns1:w.heap.size≤w1.heap.size:=e1.size
  refine WL.nil ?_
  refine WC.seq<|WC.seq<|WC.region ?_
  refine WL.q rfl (r_move rfl) ?_
  refine WL.nil ?_
  refine WC.block ?_
  refine WC.seq<|WC.seq<|WC.region ?_
  refine WL.q rfl (r_cmp (r_eql rfl rfl) (beqF (by(decide)))) ?_
  refine WL.q rfl (r_assign rfl) ?_
  refine WL.nil ?_
  refine WC.condF rfl ?_
  refine WC.seq<|WC.region ?_
  refine WL.q rfl (r_cmp (r_eql rfl rfl) (beqF (by(decide)))) ?_
  refine WL.q rfl (r_assign rfl) ?_
  refine WL.nil ?_
  refine WC.condF rfl ?_
  refine WC.region ?_
  refine WL.q rfl (r_cmp (r_eql rfl rfl) (beqF (by(decide)))) ?_
  refine WL.q rfl (r_assign rfl) ?_
  refine WL.nil ?_
  refine WC.condF rfl ?_
  refine WC.seq<|WC.region ?_
  refine WL.q rfl (r_cmp (r_eql rfl rfl) (beqF (by(decide)))) ?_
  refine WL.q rfl (r_assign rfl) ?_
  refine WL.nil ?_
  refine WC.condF rfl ?_
  refine WC.seq<|WC.region ?_
  refine WL.q rfl (r_cmp (r_eql rfl rfl) (beqF (by(decide)))) ?_
  refine WL.q rfl (r_assign rfl) ?_
  refine WL.nil ?_
  refine WC.condF rfl ?_
  refine WC.seq<|WC.region ?_
  refine WL.q rfl (r_cmp (r_eql rfl rfl) (beqF (by(decide)))) ?_
  refine WL.q rfl (r_assign rfl) ?_
  refine WL.nil ?_
  refine WC.condF rfl ?_
  refine WC.seq<|WC.region ?_
  refine WL.q rfl (r_cmp (r_eql rfl rfl) (beqF (by(decide)))) ?_
  refine WL.q rfl (r_assign rfl) ?_
  refine WL.nil ?_
  refine WC.condF rfl ?_
  refine WC.seq<|WC.region ?_
  refine WL.q rfl (r_cmp (r_eql rfl rfl) (beqF (by(decide)))) ?_
  refine WL.q rfl (r_assign rfl) ?_
  refine WL.nil ?_
  refine WC.condF rfl ?_
  refine WC.seq<|WC.region ?_
  refine WL.q rfl (r_cmp (r_eql rfl rfl) (beqT (by(rfl)))) ?_
  refine WL.q rfl (r_assign rfl) ?_
  refine WL.nil ?_
  refine WC.condT rfl ?_
  refine WC.seq<|WC.region ?_
  refine WL.q rfl (r_move rfl) ?_
  refine WL.l rfl (l_do body_55 rfl (hex_ok hK rfl hd2 (fun d hd=>by simp only[List.mem_cons,List.not_mem_nil,or_false]at hd;omega) hs)) fun v2 w2 hh=>?_
  obtain⟨rfl,hK,e2⟩:=hh
  have ns2:w1.heap.size≤w2.heap.size:=e2.size
  refine WL.q rfl (r_assign rfl) ?_
  refine WL.nil ?_
  refine WC.seq<|WC.seq<|WC.region ?_
  refine WL.q rfl (r_move rfl) ?_
  refine WL.q rfl (r_cmp (r_geq rfl rfl) (decide_eq_false (by(rw[hv4];omega)))) ?_
  refine WL.q rfl (r_move rfl) ?_
  refine WL.sk rfl rfl rfl rfl rfl ?_
  refine WL.sk rfl rfl rfl rfl rfl ?_
  refine WL.q rfl (r_pick rfl rfl rfl) ?_
  refine WL.q rfl (r_move rfl) ?_
  refine WL.sk rfl rfl rfl rfl rfl ?_
  refine WL.sk rfl rfl rfl rfl rfl ?_
  refine WL.q rfl (r_pick rfl rfl rfl) ?_
  refine WL.nil ?_
  refine WC.condF rfl ?_
  refine WC.skip ?_
  refine WC.seq<|WC.region ?_
  refine WL.q rfl (r_move rfl) ?_
  refine WL.q rfl (r_cvIntE cv_3_21 rfl (show IntKind.i32.wrap ((hv [0,0,b.toNat / 16,b.toNat.mod 16]:Nat):Int)=(b.toNat:Int) by show IntKind.i32.wrap ((hv [0,0,b.toNat / 16,b.toNat.mod 16]:Nat):Int)=_;rw[show hv [0,0,b.toNat / 16,b.toNat.mod 16]=b.toNat from hv4,IntKind.wrap_i32];omega)) ?_
  refine WL.l rfl (l_do body_56 rfl (AppR_ok hb)) fun v3 w3 hh=>?_
  obtain⟨hB,e3⟩:=hh
  have ns3:w2.heap.size≤w3.heap.size:=e3.size
  refine WL.q rfl (r_assign rfl) ?_
  refine WL.nil ?_
  refine WC.ret ?_
  replace hK:=hK.mono e3
  replace he:=((((he.then (Ext.drew _)).then (Ext.drew _)).then e1).then e2).then e3
  exact fin1 rfl ⟨hB.weaken fun k _ h=>by omega,hK,he⟩
theorem esc_sep168{jb p:Nat}{s r:List UInt8}{w:World}(hK:Jt w jb s p)(hd:s.drop p=117::50::48::50::hx 8::r)(hs:s.length≤1000000000000):
    Does Tryz.prog 38 [.pointer (some ⟨jb,0,none⟩)] w fun u w'=>IsB (fun k=>w.heap.size≤k) w' u [226,128,168]∧Jt w' jb s (p+5)∧Evo (fun k=>k≠jb) w w':=by
  have hv4:hv [2,0,2,8]=8232:=by decide
  have hsz:({data:=s.toArray}:ByteArray).size=s.length:=rfl
  obtain⟨hp,hb1,_⟩:=drop_c hd
  have hlt:=hK.lt
  unfold Jt at hK⊢
  refine does1 Tryz.func38 rfl rfl rfl ?_
  have he:Evo (fun k=>k≠jb) w w:=Evo.refl w
  have hd2:s.drop (p+1)=[2,0,2,8].map hx++r:=by rw[(drop_c hd).2.2];rfl
  refine WC.seq<|WC.region ?_
  refine WL.q rfl (r_assign rfl) ?_
  refine WL.nil ?_
  refine WC.seq<|WC.seq<|WC.regionD [(true,0),(true,1),(true,2),(true,3),(true,4),(true,5),(true,6),(true,7),(true,8),(true,9)] (Ext _) mixed (by kernel_rfl) (Ext.drew _) ?_
  have nd1w:w.drew.heap.size=w.heap.size:=rfl
  refine WD.q rfl (fun _ hS=>r_move rfl) ?_
  refine WD.q rfl (fun _ hS=>r_nilp rfl) ?_
  refine WD.q rfl (fun _ hS=>r_fieldAddr rfl fo_61_1) ?_
  refine WD.q rfl (fun _ hS=>r_load one_3 rfl hS (hK.get rfl)) ?_
  refine WD.q rfl (fun _ hS=>r_move rfl) ?_
  refine WD.q rfl (fun _ hS=>r_nilp rfl) ?_
  refine WD.q rfl (fun _ hS=>r_fieldAddr rfl fo_61_0) ?_
  refine WD.q rfl (fun _ hS=>r_load one_9 rfl hS (hK.get rfl)) ?_
  refine WD.q rfl (fun _ hS=>r_lens str_9 rfl) ?_
  refine WD.q rfl (fun _ hS=>r_cmp (r_geq rfl rfl) (decide_eq_false (by(omega)))) ?_
  refine WD.nil ?_
  refine WC.condF rfl ?_
  refine WC.skip ?_
  replace hK:=hK.mono (Ext.drew _)
  refine WC.seq<|WC.regionD [(true,0),(true,1),(true,2),(true,3),(true,4),(true,5),(true,6),(true,7),(true,8),(true,9)] (Ext _) mixed (by kernel_rfl) (Ext.drew _) ?_
  have nd2w:w.drew.drew.heap.size=w.heap.size:=rfl
  have nd1w:w.drew.heap.size=w.heap.size:=rfl
  refine WD.q rfl (fun _ hS=>r_move rfl) ?_
  refine WD.q rfl (fun _ hS=>r_nilp rfl) ?_
  refine WD.q rfl (fun _ hS=>r_fieldAddr rfl fo_61_0) ?_
  refine WD.q rfl (fun _ hS=>r_load one_9 rfl hS (hK.get rfl)) ?_
  refine WD.q rfl (fun _ hS=>r_move rfl) ?_
  refine WD.q rfl (fun _ hS=>r_nilp rfl) ?_
  refine WD.q rfl (fun _ hS=>r_fieldAddr rfl fo_61_1) ?_
  refine WD.q rfl (fun _ hS=>r_load one_3 rfl hS (hK.get rfl)) ?_
  refine WD.q rfl (fun _ hS=>r_idxs str_9 rfl rfl rfl (by assumption)) ?_
  refine WD.q rfl (fun _ hS=>r_assign rfl) ?_
  refine WD.nil ?_
  refine WC.seq<|WC.region ?_
  refine WL.q rfl (r_move rfl) ?_
  refine WL.q rfl (r_nilp rfl) ?_
  refine WL.q rfl (r_fieldAddr rfl fo_61_1) ?_
  replace hK:=hK.mono (Ext.drew _)
  refine WL.q rfl (r_load one_3 rfl (Ext.refl _) (hK.get rfl)) ?_
  refine WL.q rfl (r_addi rfl rfl rfl (by omega) (by omega)) ?_
  refine WL.q rfl (r_nilp rfl) ?_
  refine WL.q rfl (r_fieldAddr rfl fo_61_1) ?_
  refine WL.l0 (l_store sz_3 rfl rfl (by first|rfl|assumption|exact Own.one (by assumption)) hK rfl) fun _ w1 hh=>?_
  obtain⟨hK,e1,hz1⟩:=hh
  have ns1:w.heap.size≤w1.heap.size:=e1.size
  refine WL.nil ?_
  refine WC.seq<|WC.seq<|WC.region ?_
  refine WL.q rfl (r_move rfl) ?_
  refine WL.nil ?_
  refine WC.block ?_
  refine WC.seq<|WC.seq<|WC.region ?_
  refine WL.q rfl (r_cmp (r_eql rfl rfl) (beqF (by(decide)))) ?_
  refine WL.q rfl (r_assign rfl) ?_
  refine WL.nil ?_
  refine WC.condF rfl ?_
  refine WC.seq<|WC.region ?_
  refine WL.q rfl (r_cmp (r_eql rfl rfl) (beqF (by(decide)))) ?_
  refine WL.q rfl (r_assign rfl) ?_
  refine WL.nil ?_
  refine WC.condF rfl ?_
  refine WC.region ?_
  refine WL.q rfl (r_cmp (r_eql rfl rfl) (beqF (by(decide)))) ?_
  refine WL.q rfl (r_assign rfl) ?_
  refine WL.nil ?_
  refine WC.condF rfl ?_
  refine WC.seq<|WC.region ?_
  refine WL.q rfl (r_cmp (r_eql rfl rfl) (beqF (by(decide)))) ?_
  refine WL.q rfl (r_assign rfl) ?_
  refine WL.nil ?_
  refine WC.condF rfl ?_
  refine WC.seq<|WC.region ?_
  refine WL.q rfl (r_cmp (r_eql rfl rfl) (beqF (by(decide)))) ?_
  refine WL.q rfl (r_assign rfl) ?_
  refine WL.nil ?_
  refine WC.condF rfl ?_
  refine WC.seq<|WC.region ?_
  refine WL.q rfl (r_cmp (r_eql rfl rfl) (beqF (by(decide)))) ?_
  refine WL.q rfl (r_assign rfl) ?_
  refine WL.nil ?_
  refine WC.condF rfl ?_
  refine WC.seq<|WC.region ?_
  refine WL.q rfl (r_cmp (r_eql rfl rfl) (beqF (by(decide)))) ?_
  refine WL.q rfl (r_assign rfl) ?_
  refine WL.nil ?_
  refine WC.condF rfl ?_
  refine WC.seq<|WC.region ?_
  refine WL.q rfl (r_cmp (r_eql rfl rfl) (beqF (by(decide)))) ?_
  refine WL.q rfl (r_assign rfl) ?_
  refine WL.nil ?_
  refine WC.condF rfl ?_
  refine WC.seq<|WC.region ?_
  refine WL.q rfl (r_cmp (r_eql rfl rfl) (beqT (by(rfl)))) ?_
  refine WL.q rfl (r_assign rfl) ?_
  refine WL.nil ?_
  refine WC.condT rfl ?_
  refine WC.seq<|WC.region ?_
  refine WL.q rfl (r_move rfl) ?_
  refine WL.l rfl (l_do body_55 rfl (hex_ok hK rfl hd2 (by decide) hs)) fun v2 w2 hh=>?_
  obtain⟨rfl,hK,e2⟩:=hh
  have ns2:w1.heap.size≤w2.heap.size:=e2.size
  refine WL.q rfl (r_assign rfl) ?_
  refine WL.nil ?_
  refine WC.seq<|WC.seq<|WC.region ?_
  refine WL.q rfl (r_move rfl) ?_
  refine WL.q rfl (r_cmp (r_geq rfl rfl) (decide_eq_false (by(rw[hv4];omega)))) ?_
  refine WL.q rfl (r_move rfl) ?_
  refine WL.sk rfl rfl rfl rfl rfl ?_
  refine WL.sk rfl rfl rfl rfl rfl ?_
  refine WL.q rfl (r_pick rfl rfl rfl) ?_
  refine WL.q rfl (r_move rfl) ?_
  refine WL.sk rfl rfl rfl rfl rfl ?_
  refine WL.sk rfl rfl rfl rfl rfl ?_
  refine WL.q rfl (r_pick rfl rfl rfl) ?_
  refine WL.nil ?_
  refine WC.condF rfl ?_
  refine WC.skip ?_
  refine WC.seq<|WC.region ?_
  refine WL.q rfl (r_move rfl) ?_
  refine WL.q rfl (r_cvIntE cv_3_21 rfl (show IntKind.i32.wrap ((hv [2,0,2,8]:Nat):Int)=8232 by rw[hv4,IntKind.wrap_i32];omega)) ?_
  refine WL.l rfl (l_do body_56 rfl (AppS_168)) fun v3 w3 hh=>?_
  obtain⟨hB,e3⟩:=hh
  have ns3:w2.heap.size≤w3.heap.size:=e3.size
  refine WL.q rfl (r_assign rfl) ?_
  refine WL.nil ?_
  refine WC.ret ?_
  replace hK:=hK.mono e3
  replace he:=((((he.then (Ext.drew _)).then (Ext.drew _)).then e1).then e2).then e3
  exact fin1 rfl ⟨hB.weaken fun k _ h=>by omega,hK,he⟩
theorem esc_sep169{jb p:Nat}{s r:List UInt8}{w:World}(hK:Jt w jb s p)(hd:s.drop p=117::50::48::50::hx 9::r)(hs:s.length≤1000000000000):
    Does Tryz.prog 38 [.pointer (some ⟨jb,0,none⟩)] w fun u w'=>IsB (fun k=>w.heap.size≤k) w' u [226,128,169]∧Jt w' jb s (p+5)∧Evo (fun k=>k≠jb) w w':=by
  have hv4:hv [2,0,2,9]=8233:=by decide
  have hsz:({data:=s.toArray}:ByteArray).size=s.length:=rfl
  obtain⟨hp,hb1,_⟩:=drop_c hd
  have hlt:=hK.lt
  unfold Jt at hK⊢
  refine does1 Tryz.func38 rfl rfl rfl ?_
  have he:Evo (fun k=>k≠jb) w w:=Evo.refl w
  have hd2:s.drop (p+1)=[2,0,2,9].map hx++r:=by rw[(drop_c hd).2.2];rfl
  refine WC.seq<|WC.region ?_
  refine WL.q rfl (r_assign rfl) ?_
  refine WL.nil ?_
  refine WC.seq<|WC.seq<|WC.regionD [(true,0),(true,1),(true,2),(true,3),(true,4),(true,5),(true,6),(true,7),(true,8),(true,9)] (Ext _) mixed (by kernel_rfl) (Ext.drew _) ?_
  have nd1w:w.drew.heap.size=w.heap.size:=rfl
  refine WD.q rfl (fun _ hS=>r_move rfl) ?_
  refine WD.q rfl (fun _ hS=>r_nilp rfl) ?_
  refine WD.q rfl (fun _ hS=>r_fieldAddr rfl fo_61_1) ?_
  refine WD.q rfl (fun _ hS=>r_load one_3 rfl hS (hK.get rfl)) ?_
  refine WD.q rfl (fun _ hS=>r_move rfl) ?_
  refine WD.q rfl (fun _ hS=>r_nilp rfl) ?_
  refine WD.q rfl (fun _ hS=>r_fieldAddr rfl fo_61_0) ?_
  refine WD.q rfl (fun _ hS=>r_load one_9 rfl hS (hK.get rfl)) ?_
  refine WD.q rfl (fun _ hS=>r_lens str_9 rfl) ?_
  refine WD.q rfl (fun _ hS=>r_cmp (r_geq rfl rfl) (decide_eq_false (by(omega)))) ?_
  refine WD.nil ?_
  refine WC.condF rfl ?_
  refine WC.skip ?_
  replace hK:=hK.mono (Ext.drew _)
  refine WC.seq<|WC.regionD [(true,0),(true,1),(true,2),(true,3),(true,4),(true,5),(true,6),(true,7),(true,8),(true,9)] (Ext _) mixed (by kernel_rfl) (Ext.drew _) ?_
  have nd2w:w.drew.drew.heap.size=w.heap.size:=rfl
  have nd1w:w.drew.heap.size=w.heap.size:=rfl
  refine WD.q rfl (fun _ hS=>r_move rfl) ?_
  refine WD.q rfl (fun _ hS=>r_nilp rfl) ?_
  refine WD.q rfl (fun _ hS=>r_fieldAddr rfl fo_61_0) ?_
  refine WD.q rfl (fun _ hS=>r_load one_9 rfl hS (hK.get rfl)) ?_
  refine WD.q rfl (fun _ hS=>r_move rfl) ?_
  refine WD.q rfl (fun _ hS=>r_nilp rfl) ?_
  refine WD.q rfl (fun _ hS=>r_fieldAddr rfl fo_61_1) ?_
  refine WD.q rfl (fun _ hS=>r_load one_3 rfl hS (hK.get rfl)) ?_
  refine WD.q rfl (fun _ hS=>r_idxs str_9 rfl rfl rfl (by assumption)) ?_
  refine WD.q rfl (fun _ hS=>r_assign rfl) ?_
  refine WD.nil ?_
  refine WC.seq<|WC.region ?_
  refine WL.q rfl (r_move rfl) ?_
  refine WL.q rfl (r_nilp rfl) ?_
  refine WL.q rfl (r_fieldAddr rfl fo_61_1) ?_
  replace hK:=hK.mono (Ext.drew _)
  refine WL.q rfl (r_load one_3 rfl (Ext.refl _) (hK.get rfl)) ?_
  refine WL.q rfl (r_addi rfl rfl rfl (by omega) (by omega)) ?_
  refine WL.q rfl (r_nilp rfl) ?_
  refine WL.q rfl (r_fieldAddr rfl fo_61_1) ?_
  refine WL.l0 (l_store sz_3 rfl rfl (by first|rfl|assumption|exact Own.one (by assumption)) hK rfl) fun _ w1 hh=>?_
  obtain⟨hK,e1,hz1⟩:=hh
  have ns1:w.heap.size≤w1.heap.size:=e1.size
  refine WL.nil ?_
  refine WC.seq<|WC.seq<|WC.region ?_
  refine WL.q rfl (r_move rfl) ?_
  refine WL.nil ?_
  refine WC.block ?_
  refine WC.seq<|WC.seq<|WC.region ?_
  refine WL.q rfl (r_cmp (r_eql rfl rfl) (beqF (by(decide)))) ?_
  refine WL.q rfl (r_assign rfl) ?_
  refine WL.nil ?_
  refine WC.condF rfl ?_
  refine WC.seq<|WC.region ?_
  refine WL.q rfl (r_cmp (r_eql rfl rfl) (beqF (by(decide)))) ?_
  refine WL.q rfl (r_assign rfl) ?_
  refine WL.nil ?_
  refine WC.condF rfl ?_
  refine WC.region ?_
  refine WL.q rfl (r_cmp (r_eql rfl rfl) (beqF (by(decide)))) ?_
  refine WL.q rfl (r_assign rfl) ?_
  refine WL.nil ?_
  refine WC.condF rfl ?_
  refine WC.seq<|WC.region ?_
  refine WL.q rfl (r_cmp (r_eql rfl rfl) (beqF (by(decide)))) ?_
  refine WL.q rfl (r_assign rfl) ?_
  refine WL.nil ?_
  refine WC.condF rfl ?_
  refine WC.seq<|WC.region ?_
  refine WL.q rfl (r_cmp (r_eql rfl rfl) (beqF (by(decide)))) ?_
  refine WL.q rfl (r_assign rfl) ?_
  refine WL.nil ?_
  refine WC.condF rfl ?_
  refine WC.seq<|WC.region ?_
  refine WL.q rfl (r_cmp (r_eql rfl rfl) (beqF (by(decide)))) ?_
  refine WL.q rfl (r_assign rfl) ?_
  refine WL.nil ?_
  refine WC.condF rfl ?_
  refine WC.seq<|WC.region ?_
  refine WL.q rfl (r_cmp (r_eql rfl rfl) (beqF (by(decide)))) ?_
  refine WL.q rfl (r_assign rfl) ?_
  refine WL.nil ?_
  refine WC.condF rfl ?_
  refine WC.seq<|WC.region ?_
  refine WL.q rfl (r_cmp (r_eql rfl rfl) (beqF (by(decide)))) ?_
  refine WL.q rfl (r_assign rfl) ?_
  refine WL.nil ?_
  refine WC.condF rfl ?_
  refine WC.seq<|WC.region ?_
  refine WL.q rfl (r_cmp (r_eql rfl rfl) (beqT (by(rfl)))) ?_
  refine WL.q rfl (r_assign rfl) ?_
  refine WL.nil ?_
  refine WC.condT rfl ?_
  refine WC.seq<|WC.region ?_
  refine WL.q rfl (r_move rfl) ?_
  refine WL.l rfl (l_do body_55 rfl (hex_ok hK rfl hd2 (by decide) hs)) fun v2 w2 hh=>?_
  obtain⟨rfl,hK,e2⟩:=hh
  have ns2:w1.heap.size≤w2.heap.size:=e2.size
  refine WL.q rfl (r_assign rfl) ?_
  refine WL.nil ?_
  refine WC.seq<|WC.seq<|WC.region ?_
  refine WL.q rfl (r_move rfl) ?_
  refine WL.q rfl (r_cmp (r_geq rfl rfl) (decide_eq_false (by(rw[hv4];omega)))) ?_
  refine WL.q rfl (r_move rfl) ?_
  refine WL.sk rfl rfl rfl rfl rfl ?_
  refine WL.sk rfl rfl rfl rfl rfl ?_
  refine WL.q rfl (r_pick rfl rfl rfl) ?_
  refine WL.q rfl (r_move rfl) ?_
  refine WL.sk rfl rfl rfl rfl rfl ?_
  refine WL.sk rfl rfl rfl rfl rfl ?_
  refine WL.q rfl (r_pick rfl rfl rfl) ?_
  refine WL.nil ?_
  refine WC.condF rfl ?_
  refine WC.skip ?_
  refine WC.seq<|WC.region ?_
  refine WL.q rfl (r_move rfl) ?_
  refine WL.q rfl (r_cvIntE cv_3_21 rfl (show IntKind.i32.wrap ((hv [2,0,2,9]:Nat):Int)=8233 by rw[hv4,IntKind.wrap_i32];omega)) ?_
  refine WL.l rfl (l_do body_56 rfl (AppS_169)) fun v3 w3 hh=>?_
  obtain⟨hB,e3⟩:=hh
  have ns3:w2.heap.size≤w3.heap.size:=e3.size
  refine WL.q rfl (r_assign rfl) ?_
  refine WL.nil ?_
  refine WC.ret ?_
  replace hK:=hK.mono e3
  replace he:=((((he.then (Ext.drew _)).then (Ext.drew _)).then e1).then e2).then e3
  exact fin1 rfl ⟨hB.weaken fun k _ h=>by omega,hK,he⟩
end Go.Proofs.LL
