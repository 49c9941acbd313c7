/- Contracts of functions and own laws. Conditions: those that each theorem states. -/
import Derived.Test.YtbkhpjeaacoobaaGreatDoorA17
set_option linter.all false
set_option maxRecDepth 20000
namespace Go.Proofs.LL
open Go Go.Proofs Go.RowKit
theorem agg_96:aggT Tryz.prog 96=some 4:=by kernel_rfl
theorem bld_96:bldT Tryz.prog 96=some ([(0,1),(1,1),(2,1),(3,1)],[.int .u8 0,.int .i8 0,.int .u8 0,.int .u8 0]):=by kernel_rfl
theorem body_40:bodyB Tryz.prog 40=true:=by kernel_rfl
theorem body_57:bodyB Tryz.prog 57=true:=by kernel_rfl
theorem body_81:bodyB Tryz.prog 81=true:=by kernel_rfl
theorem body_82:bodyB Tryz.prog 82=true:=by kernel_rfl
theorem body_83:bodyB Tryz.prog 83=true:=by kernel_rfl
theorem cv_5_143:cvInt Tryz.prog 5 143=some .u16:=by kernel_rfl
theorem cv_5_94:cvInt Tryz.prog 5 94=some .i8:=by kernel_rfl
theorem fld_96_2:fldT Tryz.prog 96 2=some (2,false,1):=by kernel_rfl
theorem sz_96:szT Tryz.prog 96=some 4:=by kernel_rfl
theorem zt_96:zeroT Tryz.prog 96=some (.agg #[.int .u8 0,.int .i8 0,.int .u8 0,.int .u8 0]):=by kernel_rfl
theorem and_u8{z:Int}(i:Nat)(hi:i≤8)(h0:0≤z)(h1:z<256):bits .and .u8 z (2^i-1)=z%2^i:=
  bits_mask .u8 8 (by decide) (fun n h0 h1=>wraps_u8 n h0 h1) i hi z h0 (by simpa using h1)
theorem rfixstr_ok{z:Int}{w:World}(h0:0≤z)(h1:z<256):
    Does Tryz.prog 81 [.int .u8 z] w fun r w'=>r= .int .u8 (z%32)∧Ext w w':=by
  have e:bits .and .u8 z 31=z%32:=and_u8 5 (by decide) h0 h1
  refine does1 Tryz.func81 rfl rfl rfl ?_
  have he:Evo (fun _=>True) w w:=Evo.refl w
  refine WC.seq<|WC.region ?_
  refine WL.q rfl (r_assign rfl) ?_
  refine WL.nil ?_
  refine WC.seq<|WC.region ?_
  refine WL.q rfl (r_move rfl) ?_
  refine WL.q rfl (r_as (r_bitand rfl rfl) e) ?_
  refine WL.q rfl (r_assign rfl) ?_
  refine WL.nil ?_
  refine WC.ret ?_
  exact fin1 rfl ⟨rfl,he⟩
theorem rfixmap_ok{z:Int}{w:World}(h0:0≤z)(h1:z<256):
    Does Tryz.prog 82 [.int .u8 z] w fun r w'=>r= .int .u8 (z%16)∧Ext w w':=by
  have e:bits .and .u8 z 15=z%16:=and_u8 4 (by decide) h0 h1
  refine does1 Tryz.func82 rfl rfl rfl ?_
  have he:Evo (fun _=>True) w w:=Evo.refl w
  refine WC.seq<|WC.region ?_
  refine WL.q rfl (r_assign rfl) ?_
  refine WL.nil ?_
  refine WC.seq<|WC.region ?_
  refine WL.q rfl (r_move rfl) ?_
  refine WL.q rfl (r_as (r_bitand rfl rfl) e) ?_
  refine WL.q rfl (r_assign rfl) ?_
  refine WL.nil ?_
  refine WC.ret ?_
  exact fin1 rfl ⟨rfl,he⟩
theorem rfixarray_ok{z:Int}{w:World}(h0:0≤z)(h1:z<256):
    Does Tryz.prog 83 [.int .u8 z] w fun r w'=>r= .int .u8 (z%16)∧Ext w w':=by
  have e:bits .and .u8 z 15=z%16:=and_u8 4 (by decide) h0 h1
  refine does1 Tryz.func83 rfl rfl rfl ?_
  have he:Evo (fun _=>True) w w:=Evo.refl w
  refine WC.seq<|WC.region ?_
  refine WL.q rfl (r_assign rfl) ?_
  refine WL.nil ?_
  refine WC.seq<|WC.region ?_
  refine WL.q rfl (r_move rfl) ?_
  refine WL.q rfl (r_as (r_bitand rfl rfl) e) ?_
  refine WL.q rfl (r_assign rfl) ?_
  refine WL.nil ?_
  refine WC.ret ?_
  exact fin1 rfl ⟨rfl,he⟩
def tyI(z:Int):Int:=
  if z=192 then 10 else if z=194∨z=195 then 7 else if 196≤z∧z≤198 then 2 else if(199≤z∧z≤201)∨(212≤z∧z≤216)then 12 else if z=202 then 6 else if z=203 then 5 else
  if 204≤z∧z≤207 then 9 else if 208≤z∧z≤211 then 8 else if 217≤z∧z≤219 then 1 else if z=220∨z=221 then 4 else if z=222∨z=223 then 3 else
  if z<128 then 8 else if 160≤z∧z<192 then 1 else if 128≤z∧z<144 then 3 else if 144≤z∧z<160 then 4 else if 224≤z then 8 else 0
set_option maxHeartbeats 8000000 in
theorem cbs_ok{z:Int}{w:World}(h0:0≤z)(h1:z<256):
    Does Tryz.prog 57 [.int .u8 z] w fun r w'=>(∃a b,r= .agg #[.int .u8 a,.int .i8 b,.int .u8 (tyI z),.int .u8 0])∧Ext w w':=by
  rcases Decidable.em (z=192)with q0|q0
  · have qt:tyI z=10:=(by unfold tyI;repeat (first|rw[if_pos (by omega)]|rw[if_neg (by omega)]))
    refine doesR Tryz.func57 rfl rfl rfl ?_
    have he:Evo (fun b=>b<w.heap.size) w w:=Evo.refl w
    refine WC.seq<|WC.region ?_
    have hs1:=he.size
    refine WL.l rfl (l_alloc zt_96 rfl) fun _ w1 hh=>?_
    obtain⟨rfl,hb1,e1⟩:=hh
    refine WL.nil ?_
    refine WC.seq<|WC.seq<|WC.region ?_
    refine WL.q rfl (r_move rfl) ?_
    refine WL.nil ?_
    refine WC.block ?_
    refine WC.seq<|WC.region ?_
    refine WL.q rfl (r_cmp (r_eql rfl rfl) (beqT (q0))) ?_
    refine WL.q rfl (r_assign rfl) ?_
    refine WL.nil ?_
    refine WC.condT rfl ?_
    refine WC.seq<|WC.region ?_
    refine WL.q rfl (r_bld (cs:=[_,_,_,_]) bld_96 rfl rfl) ?_
    refine WL.l0 (l_storeW sz_96 rfl rfl (by first|rfl|assumption|(simp[*];done)|simp[Value.oneCell', *]) (by first|rfl|simp[*]) hb1 (by first|rfl|simp[*])) fun _ w2 hh=>?_
    obtain⟨hb1,e2,hz2⟩:=hh
    refine WL.nil ?_
    refine WC.ret ?_
    replace he:=he.then (e1.then e2)
    exact finC rfl hb1 agg_96 ⟨⟨_,_,by rw[qt]⟩,he.weaken fun b hb _=>hb⟩
  rcases Decidable.em (z=194)with q1|q1
  · have qt:tyI z=7:=(by unfold tyI;repeat (first|rw[if_pos (by omega)]|rw[if_neg (by omega)]))
    refine doesR Tryz.func57 rfl rfl rfl ?_
    have he:Evo (fun b=>b<w.heap.size) w w:=Evo.refl w
    refine WC.seq<|WC.region ?_
    have hs1:=he.size
    refine WL.l rfl (l_alloc zt_96 rfl) fun _ w1 hh=>?_
    obtain⟨rfl,hb1,e1⟩:=hh
    refine WL.nil ?_
    refine WC.seq<|WC.seq<|WC.region ?_
    refine WL.q rfl (r_move rfl) ?_
    refine WL.nil ?_
    refine WC.block ?_
    refine WC.seq<|WC.region ?_
    refine WL.q rfl (r_cmp (r_eql rfl rfl) (beqF (q0))) ?_
    refine WL.q rfl (r_assign rfl) ?_
    refine WL.nil ?_
    refine WC.condF rfl ?_
    refine WC.seq<|WC.region ?_
    refine WL.q rfl (r_cmp (r_eql rfl rfl) (beqT (q1))) ?_
    refine WL.q rfl (r_assign rfl) ?_
    refine WL.nil ?_
    refine WC.condT rfl ?_
    refine WC.seq<|WC.region ?_
    refine WL.q rfl (r_bld (cs:=[_,_,_,_]) bld_96 rfl rfl) ?_
    refine WL.l0 (l_storeW sz_96 rfl rfl (by first|rfl|assumption|(simp[*];done)|simp[Value.oneCell', *]) (by first|rfl|simp[*]) hb1 (by first|rfl|simp[*])) fun _ w2 hh=>?_
    obtain⟨hb1,e2,hz2⟩:=hh
    refine WL.nil ?_
    refine WC.ret ?_
    replace he:=he.then (e1.then e2)
    exact finC rfl hb1 agg_96 ⟨⟨_,_,by rw[qt]⟩,he.weaken fun b hb _=>hb⟩
  rcases Decidable.em (z=195)with q2|q2
  · have qt:tyI z=7:=(by unfold tyI;repeat (first|rw[if_pos (by omega)]|rw[if_neg (by omega)]))
    refine doesR Tryz.func57 rfl rfl rfl ?_
    have he:Evo (fun b=>b<w.heap.size) w w:=Evo.refl w
    refine WC.seq<|WC.region ?_
    have hs1:=he.size
    refine WL.l rfl (l_alloc zt_96 rfl) fun _ w1 hh=>?_
    obtain⟨rfl,hb1,e1⟩:=hh
    refine WL.nil ?_
    refine WC.seq<|WC.seq<|WC.region ?_
    refine WL.q rfl (r_move rfl) ?_
    refine WL.nil ?_
    refine WC.block ?_
    refine WC.seq<|WC.region ?_
    refine WL.q rfl (r_cmp (r_eql rfl rfl) (beqF (q0))) ?_
    refine WL.q rfl (r_assign rfl) ?_
    refine WL.nil ?_
    refine WC.condF rfl ?_
    refine WC.seq<|WC.region ?_
    refine WL.q rfl (r_cmp (r_eql rfl rfl) (beqF (q1))) ?_
    refine WL.q rfl (r_assign rfl) ?_
    refine WL.nil ?_
    refine WC.condF rfl ?_
    refine WC.seq<|WC.region ?_
    refine WL.q rfl (r_cmp (r_eql rfl rfl) (beqT (q2))) ?_
    refine WL.q rfl (r_assign rfl) ?_
    refine WL.nil ?_
    refine WC.condT rfl ?_
    refine WC.seq<|WC.region ?_
    refine WL.q rfl (r_bld (cs:=[_,_,_,_]) bld_96 rfl rfl) ?_
    refine WL.l0 (l_storeW sz_96 rfl rfl (by first|rfl|assumption|(simp[*];done)|simp[Value.oneCell', *]) (by first|rfl|simp[*]) hb1 (by first|rfl|simp[*])) fun _ w2 hh=>?_
    obtain⟨hb1,e2,hz2⟩:=hh
    refine WL.nil ?_
    refine WC.ret ?_
    replace he:=he.then (e1.then e2)
    exact finC rfl hb1 agg_96 ⟨⟨_,_,by rw[qt]⟩,he.weaken fun b hb _=>hb⟩
  rcases Decidable.em (z=196)with q3|q3
  · have qt:tyI z=2:=(by unfold tyI;repeat (first|rw[if_pos (by omega)]|rw[if_neg (by omega)]))
    refine doesR Tryz.func57 rfl rfl rfl ?_
    have he:Evo (fun b=>b<w.heap.size) w w:=Evo.refl w
    refine WC.seq<|WC.region ?_
    have hs1:=he.size
    refine WL.l rfl (l_alloc zt_96 rfl) fun _ w1 hh=>?_
    obtain⟨rfl,hb1,e1⟩:=hh
    refine WL.nil ?_
    refine WC.seq<|WC.seq<|WC.region ?_
    refine WL.q rfl (r_move rfl) ?_
    refine WL.nil ?_
    refine WC.block ?_
    refine WC.seq<|WC.region ?_
    refine WL.q rfl (r_cmp (r_eql rfl rfl) (beqF (q0))) ?_
    refine WL.q rfl (r_assign rfl) ?_
    refine WL.nil ?_
    refine WC.condF rfl ?_
    refine WC.seq<|WC.region ?_
    refine WL.q rfl (r_cmp (r_eql rfl rfl) (beqF (q1))) ?_
    refine WL.q rfl (r_assign rfl) ?_
    refine WL.nil ?_
    refine WC.condF rfl ?_
    refine WC.seq<|WC.region ?_
    refine WL.q rfl (r_cmp (r_eql rfl rfl) (beqF (q2))) ?_
    refine WL.q rfl (r_assign rfl) ?_
    refine WL.nil ?_
    refine WC.condF rfl ?_
    refine WC.seq<|WC.region ?_
    refine WL.q rfl (r_cmp (r_eql rfl rfl) (beqT (q3))) ?_
    refine WL.q rfl (r_assign rfl) ?_
    refine WL.nil ?_
    refine WC.condT rfl ?_
    refine WC.seq<|WC.region ?_
    refine WL.q rfl (r_bld (cs:=[_,_,_,_]) bld_96 rfl rfl) ?_
    refine WL.l0 (l_storeW sz_96 rfl rfl (by first|rfl|assumption|(simp[*];done)|simp[Value.oneCell', *]) (by first|rfl|simp[*]) hb1 (by first|rfl|simp[*])) fun _ w2 hh=>?_
    obtain⟨hb1,e2,hz2⟩:=hh
    refine WL.nil ?_
    refine WC.ret ?_
    replace he:=he.then (e1.then e2)
    exact finC rfl hb1 agg_96 ⟨⟨_,_,by rw[qt]⟩,he.weaken fun b hb _=>hb⟩
  rcases Decidable.em (z=197)with q4|q4
  · have qt:tyI z=2:=(by unfold tyI;repeat (first|rw[if_pos (by omega)]|rw[if_neg (by omega)]))
    refine doesR Tryz.func57 rfl rfl rfl ?_
    have he:Evo (fun b=>b<w.heap.size) w w:=Evo.refl w
    refine WC.seq<|WC.region ?_
    have hs1:=he.size
    refine WL.l rfl (l_alloc zt_96 rfl) fun _ w1 hh=>?_
    obtain⟨rfl,hb1,e1⟩:=hh
    refine WL.nil ?_
    refine WC.seq<|WC.seq<|WC.region ?_
    refine WL.q rfl (r_move rfl) ?_
    refine WL.nil ?_
    refine WC.block ?_
    refine WC.seq<|WC.region ?_
    refine WL.q rfl (r_cmp (r_eql rfl rfl) (beqF (q0))) ?_
    refine WL.q rfl (r_assign rfl) ?_
    refine WL.nil ?_
    refine WC.condF rfl ?_
    refine WC.seq<|WC.region ?_
    refine WL.q rfl (r_cmp (r_eql rfl rfl) (beqF (q1))) ?_
    refine WL.q rfl (r_assign rfl) ?_
    refine WL.nil ?_
    refine WC.condF rfl ?_
    refine WC.seq<|WC.region ?_
    refine WL.q rfl (r_cmp (r_eql rfl rfl) (beqF (q2))) ?_
    refine WL.q rfl (r_assign rfl) ?_
    refine WL.nil ?_
    refine WC.condF rfl ?_
    refine WC.seq<|WC.region ?_
    refine WL.q rfl (r_cmp (r_eql rfl rfl) (beqF (q3))) ?_
    refine WL.q rfl (r_assign rfl) ?_
    refine WL.nil ?_
    refine WC.condF rfl ?_
    refine WC.seq<|WC.region ?_
    refine WL.q rfl (r_cmp (r_eql rfl rfl) (beqT (q4))) ?_
    refine WL.q rfl (r_assign rfl) ?_
    refine WL.nil ?_
    refine WC.condT rfl ?_
    refine WC.seq<|WC.region ?_
    refine WL.q rfl (r_bld (cs:=[_,_,_,_]) bld_96 rfl rfl) ?_
    refine WL.l0 (l_storeW sz_96 rfl rfl (by first|rfl|assumption|(simp[*];done)|simp[Value.oneCell', *]) (by first|rfl|simp[*]) hb1 (by first|rfl|simp[*])) fun _ w2 hh=>?_
    obtain⟨hb1,e2,hz2⟩:=hh
    refine WL.nil ?_
    refine WC.ret ?_
    replace he:=he.then (e1.then e2)
    exact finC rfl hb1 agg_96 ⟨⟨_,_,by rw[qt]⟩,he.weaken fun b hb _=>hb⟩
  rcases Decidable.em (z=198)with q5|q5
  · have qt:tyI z=2:=(by unfold tyI;repeat (first|rw[if_pos (by omega)]|rw[if_neg (by omega)]))
    refine doesR Tryz.func57 rfl rfl rfl ?_
    have he:Evo (fun b=>b<w.heap.size) w w:=Evo.refl w
    refine WC.seq<|WC.region ?_
    have hs1:=he.size
    refine WL.l rfl (l_alloc zt_96 rfl) fun _ w1 hh=>?_
    obtain⟨rfl,hb1,e1⟩:=hh
    refine WL.nil ?_
    refine WC.seq<|WC.seq<|WC.region ?_
    refine WL.q rfl (r_move rfl) ?_
    refine WL.nil ?_
    refine WC.block ?_
    refine WC.seq<|WC.region ?_
    refine WL.q rfl (r_cmp (r_eql rfl rfl) (beqF (q0))) ?_
    refine WL.q rfl (r_assign rfl) ?_
    refine WL.nil ?_
    refine WC.condF rfl ?_
    refine WC.seq<|WC.region ?_
    refine WL.q rfl (r_cmp (r_eql rfl rfl) (beqF (q1))) ?_
    refine WL.q rfl (r_assign rfl) ?_
    refine WL.nil ?_
    refine WC.condF rfl ?_
    refine WC.seq<|WC.region ?_
    refine WL.q rfl (r_cmp (r_eql rfl rfl) (beqF (q2))) ?_
    refine WL.q rfl (r_assign rfl) ?_
    refine WL.nil ?_
    refine WC.condF rfl ?_
    refine WC.seq<|WC.region ?_
    refine WL.q rfl (r_cmp (r_eql rfl rfl) (beqF (q3))) ?_
    refine WL.q rfl (r_assign rfl) ?_
    refine WL.nil ?_
    refine WC.condF rfl ?_
    refine WC.seq<|WC.region ?_
    refine WL.q rfl (r_cmp (r_eql rfl rfl) (beqF (q4))) ?_
    refine WL.q rfl (r_assign rfl) ?_
    refine WL.nil ?_
    refine WC.condF rfl ?_
    refine WC.seq<|WC.region ?_
    refine WL.q rfl (r_cmp (r_eql rfl rfl) (beqT (q5))) ?_
    refine WL.q rfl (r_assign rfl) ?_
    refine WL.nil ?_
    refine WC.condT rfl ?_
    refine WC.seq<|WC.region ?_
    refine WL.q rfl (r_bld (cs:=[_,_,_,_]) bld_96 rfl rfl) ?_
    refine WL.l0 (l_storeW sz_96 rfl rfl (by first|rfl|assumption|(simp[*];done)|simp[Value.oneCell', *]) (by first|rfl|simp[*]) hb1 (by first|rfl|simp[*])) fun _ w2 hh=>?_
    obtain⟨hb1,e2,hz2⟩:=hh
    refine WL.nil ?_
    refine WC.ret ?_
    replace he:=he.then (e1.then e2)
    exact finC rfl hb1 agg_96 ⟨⟨_,_,by rw[qt]⟩,he.weaken fun b hb _=>hb⟩
  rcases Decidable.em (z=199)with q6|q6
  · have qt:tyI z=12:=(by unfold tyI;repeat (first|rw[if_pos (by omega)]|rw[if_neg (by omega)]))
    refine doesR Tryz.func57 rfl rfl rfl ?_
    have he:Evo (fun b=>b<w.heap.size) w w:=Evo.refl w
    refine WC.seq<|WC.region ?_
    have hs1:=he.size
    refine WL.l rfl (l_alloc zt_96 rfl) fun _ w1 hh=>?_
    obtain⟨rfl,hb1,e1⟩:=hh
    refine WL.nil ?_
    refine WC.seq<|WC.seq<|WC.region ?_
    refine WL.q rfl (r_move rfl) ?_
    refine WL.nil ?_
    refine WC.block ?_
    refine WC.seq<|WC.region ?_
    refine WL.q rfl (r_cmp (r_eql rfl rfl) (beqF (q0))) ?_
    refine WL.q rfl (r_assign rfl) ?_
    refine WL.nil ?_
    refine WC.condF rfl ?_
    refine WC.seq<|WC.region ?_
    refine WL.q rfl (r_cmp (r_eql rfl rfl) (beqF (q1))) ?_
    refine WL.q rfl (r_assign rfl) ?_
    refine WL.nil ?_
    refine WC.condF rfl ?_
    refine WC.seq<|WC.region ?_
    refine WL.q rfl (r_cmp (r_eql rfl rfl) (beqF (q2))) ?_
    refine WL.q rfl (r_assign rfl) ?_
    refine WL.nil ?_
    refine WC.condF rfl ?_
    refine WC.seq<|WC.region ?_
    refine WL.q rfl (r_cmp (r_eql rfl rfl) (beqF (q3))) ?_
    refine WL.q rfl (r_assign rfl) ?_
    refine WL.nil ?_
    refine WC.condF rfl ?_
    refine WC.seq<|WC.region ?_
    refine WL.q rfl (r_cmp (r_eql rfl rfl) (beqF (q4))) ?_
    refine WL.q rfl (r_assign rfl) ?_
    refine WL.nil ?_
    refine WC.condF rfl ?_
    refine WC.seq<|WC.region ?_
    refine WL.q rfl (r_cmp (r_eql rfl rfl) (beqF (q5))) ?_
    refine WL.q rfl (r_assign rfl) ?_
    refine WL.nil ?_
    refine WC.condF rfl ?_
    refine WC.seq<|WC.region ?_
    refine WL.q rfl (r_cmp (r_eql rfl rfl) (beqT (q6))) ?_
    refine WL.q rfl (r_assign rfl) ?_
    refine WL.nil ?_
    refine WC.condT rfl ?_
    refine WC.seq<|WC.region ?_
    refine WL.q rfl (r_bld (cs:=[_,_,_,_]) bld_96 rfl rfl) ?_
    refine WL.l0 (l_storeW sz_96 rfl rfl (by first|rfl|assumption|(simp[*];done)|simp[Value.oneCell', *]) (by first|rfl|simp[*]) hb1 (by first|rfl|simp[*])) fun _ w2 hh=>?_
    obtain⟨hb1,e2,hz2⟩:=hh
    refine WL.nil ?_
    refine WC.ret ?_
    replace he:=he.then (e1.then e2)
    exact finC rfl hb1 agg_96 ⟨⟨_,_,by rw[qt]⟩,he.weaken fun b hb _=>hb⟩
  rcases Decidable.em (z=200)with q7|q7
  · have qt:tyI z=12:=(by unfold tyI;repeat (first|rw[if_pos (by omega)]|rw[if_neg (by omega)]))
    refine doesR Tryz.func57 rfl rfl rfl ?_
    have he:Evo (fun b=>b<w.heap.size) w w:=Evo.refl w
    refine WC.seq<|WC.region ?_
    have hs1:=he.size
    refine WL.l rfl (l_alloc zt_96 rfl) fun _ w1 hh=>?_
    obtain⟨rfl,hb1,e1⟩:=hh
    refine WL.nil ?_
    refine WC.seq<|WC.seq<|WC.region ?_
    refine WL.q rfl (r_move rfl) ?_
    refine WL.nil ?_
    refine WC.block ?_
    refine WC.seq<|WC.region ?_
    refine WL.q rfl (r_cmp (r_eql rfl rfl) (beqF (q0))) ?_
    refine WL.q rfl (r_assign rfl) ?_
    refine WL.nil ?_
    refine WC.condF rfl ?_
    refine WC.seq<|WC.region ?_
    refine WL.q rfl (r_cmp (r_eql rfl rfl) (beqF (q1))) ?_
    refine WL.q rfl (r_assign rfl) ?_
    refine WL.nil ?_
    refine WC.condF rfl ?_
    refine WC.seq<|WC.region ?_
    refine WL.q rfl (r_cmp (r_eql rfl rfl) (beqF (q2))) ?_
    refine WL.q rfl (r_assign rfl) ?_
    refine WL.nil ?_
    refine WC.condF rfl ?_
    refine WC.seq<|WC.region ?_
    refine WL.q rfl (r_cmp (r_eql rfl rfl) (beqF (q3))) ?_
    refine WL.q rfl (r_assign rfl) ?_
    refine WL.nil ?_
    refine WC.condF rfl ?_
    refine WC.seq<|WC.region ?_
    refine WL.q rfl (r_cmp (r_eql rfl rfl) (beqF (q4))) ?_
    refine WL.q rfl (r_assign rfl) ?_
    refine WL.nil ?_
    refine WC.condF rfl ?_
    refine WC.seq<|WC.region ?_
    refine WL.q rfl (r_cmp (r_eql rfl rfl) (beqF (q5))) ?_
    refine WL.q rfl (r_assign rfl) ?_
    refine WL.nil ?_
    refine WC.condF rfl ?_
    refine WC.seq<|WC.region ?_
    refine WL.q rfl (r_cmp (r_eql rfl rfl) (beqF (q6))) ?_
    refine WL.q rfl (r_assign rfl) ?_
    refine WL.nil ?_
    refine WC.condF rfl ?_
    refine WC.seq<|WC.region ?_
    refine WL.q rfl (r_cmp (r_eql rfl rfl) (beqT (q7))) ?_
    refine WL.q rfl (r_assign rfl) ?_
    refine WL.nil ?_
    refine WC.condT rfl ?_
    refine WC.seq<|WC.region ?_
    refine WL.q rfl (r_bld (cs:=[_,_,_,_]) bld_96 rfl rfl) ?_
    refine WL.l0 (l_storeW sz_96 rfl rfl (by first|rfl|assumption|(simp[*];done)|simp[Value.oneCell', *]) (by first|rfl|simp[*]) hb1 (by first|rfl|simp[*])) fun _ w2 hh=>?_
    obtain⟨hb1,e2,hz2⟩:=hh
    refine WL.nil ?_
    refine WC.ret ?_
    replace he:=he.then (e1.then e2)
    exact finC rfl hb1 agg_96 ⟨⟨_,_,by rw[qt]⟩,he.weaken fun b hb _=>hb⟩
  rcases Decidable.em (z=201)with q8|q8
  · have qt:tyI z=12:=(by unfold tyI;repeat (first|rw[if_pos (by omega)]|rw[if_neg (by omega)]))
    refine doesR Tryz.func57 rfl rfl rfl ?_
    have he:Evo (fun b=>b<w.heap.size) w w:=Evo.refl w
    refine WC.seq<|WC.region ?_
    have hs1:=he.size
    refine WL.l rfl (l_alloc zt_96 rfl) fun _ w1 hh=>?_
    obtain⟨rfl,hb1,e1⟩:=hh
    refine WL.nil ?_
    refine WC.seq<|WC.seq<|WC.region ?_
    refine WL.q rfl (r_move rfl) ?_
    refine WL.nil ?_
    refine WC.block ?_
    refine WC.seq<|WC.region ?_
    refine WL.q rfl (r_cmp (r_eql rfl rfl) (beqF (q0))) ?_
    refine WL.q rfl (r_assign rfl) ?_
    refine WL.nil ?_
    refine WC.condF rfl ?_
    refine WC.seq<|WC.region ?_
    refine WL.q rfl (r_cmp (r_eql rfl rfl) (beqF (q1))) ?_
    refine WL.q rfl (r_assign rfl) ?_
    refine WL.nil ?_
    refine WC.condF rfl ?_
    refine WC.seq<|WC.region ?_
    refine WL.q rfl (r_cmp (r_eql rfl rfl) (beqF (q2))) ?_
    refine WL.q rfl (r_assign rfl) ?_
    refine WL.nil ?_
    refine WC.condF rfl ?_
    refine WC.seq<|WC.region ?_
    refine WL.q rfl (r_cmp (r_eql rfl rfl) (beqF (q3))) ?_
    refine WL.q rfl (r_assign rfl) ?_
    refine WL.nil ?_
    refine WC.condF rfl ?_
    refine WC.seq<|WC.region ?_
    refine WL.q rfl (r_cmp (r_eql rfl rfl) (beqF (q4))) ?_
    refine WL.q rfl (r_assign rfl) ?_
    refine WL.nil ?_
    refine WC.condF rfl ?_
    refine WC.seq<|WC.region ?_
    refine WL.q rfl (r_cmp (r_eql rfl rfl) (beqF (q5))) ?_
    refine WL.q rfl (r_assign rfl) ?_
    refine WL.nil ?_
    refine WC.condF rfl ?_
    refine WC.seq<|WC.region ?_
    refine WL.q rfl (r_cmp (r_eql rfl rfl) (beqF (q6))) ?_
    refine WL.q rfl (r_assign rfl) ?_
    refine WL.nil ?_
    refine WC.condF rfl ?_
    refine WC.seq<|WC.region ?_
    refine WL.q rfl (r_cmp (r_eql rfl rfl) (beqF (q7))) ?_
    refine WL.q rfl (r_assign rfl) ?_
    refine WL.nil ?_
    refine WC.condF rfl ?_
    refine WC.seq<|WC.region ?_
    refine WL.q rfl (r_cmp (r_eql rfl rfl) (beqT (q8))) ?_
    refine WL.q rfl (r_assign rfl) ?_
    refine WL.nil ?_
    refine WC.condT rfl ?_
    refine WC.seq<|WC.region ?_
    refine WL.q rfl (r_bld (cs:=[_,_,_,_]) bld_96 rfl rfl) ?_
    refine WL.l0 (l_storeW sz_96 rfl rfl (by first|rfl|assumption|(simp[*];done)|simp[Value.oneCell', *]) (by first|rfl|simp[*]) hb1 (by first|rfl|simp[*])) fun _ w2 hh=>?_
    obtain⟨hb1,e2,hz2⟩:=hh
    refine WL.nil ?_
    refine WC.ret ?_
    replace he:=he.then (e1.then e2)
    exact finC rfl hb1 agg_96 ⟨⟨_,_,by rw[qt]⟩,he.weaken fun b hb _=>hb⟩
  rcases Decidable.em (z=202)with q9|q9
  · have qt:tyI z=6:=(by unfold tyI;repeat (first|rw[if_pos (by omega)]|rw[if_neg (by omega)]))
    refine doesR Tryz.func57 rfl rfl rfl ?_
    have he:Evo (fun b=>b<w.heap.size) w w:=Evo.refl w
    refine WC.seq<|WC.region ?_
    have hs1:=he.size
    refine WL.l rfl (l_alloc zt_96 rfl) fun _ w1 hh=>?_
    obtain⟨rfl,hb1,e1⟩:=hh
    refine WL.nil ?_
    refine WC.seq<|WC.seq<|WC.region ?_
    refine WL.q rfl (r_move rfl) ?_
    refine WL.nil ?_
    refine WC.block ?_
    refine WC.seq<|WC.region ?_
    refine WL.q rfl (r_cmp (r_eql rfl rfl) (beqF (q0))) ?_
    refine WL.q rfl (r_assign rfl) ?_
    refine WL.nil ?_
    refine WC.condF rfl ?_
    refine WC.seq<|WC.region ?_
    refine WL.q rfl (r_cmp (r_eql rfl rfl) (beqF (q1))) ?_
    refine WL.q rfl (r_assign rfl) ?_
    refine WL.nil ?_
    refine WC.condF rfl ?_
    refine WC.seq<|WC.region ?_
    refine WL.q rfl (r_cmp (r_eql rfl rfl) (beqF (q2))) ?_
    refine WL.q rfl (r_assign rfl) ?_
    refine WL.nil ?_
    refine WC.condF rfl ?_
    refine WC.seq<|WC.region ?_
    refine WL.q rfl (r_cmp (r_eql rfl rfl) (beqF (q3))) ?_
    refine WL.q rfl (r_assign rfl) ?_
    refine WL.nil ?_
    refine WC.condF rfl ?_
    refine WC.seq<|WC.region ?_
    refine WL.q rfl (r_cmp (r_eql rfl rfl) (beqF (q4))) ?_
    refine WL.q rfl (r_assign rfl) ?_
    refine WL.nil ?_
    refine WC.condF rfl ?_
    refine WC.seq<|WC.region ?_
    refine WL.q rfl (r_cmp (r_eql rfl rfl) (beqF (q5))) ?_
    refine WL.q rfl (r_assign rfl) ?_
    refine WL.nil ?_
    refine WC.condF rfl ?_
    refine WC.seq<|WC.region ?_
    refine WL.q rfl (r_cmp (r_eql rfl rfl) (beqF (q6))) ?_
    refine WL.q rfl (r_assign rfl) ?_
    refine WL.nil ?_
    refine WC.condF rfl ?_
    refine WC.seq<|WC.region ?_
    refine WL.q rfl (r_cmp (r_eql rfl rfl) (beqF (q7))) ?_
    refine WL.q rfl (r_assign rfl) ?_
    refine WL.nil ?_
    refine WC.condF rfl ?_
    refine WC.seq<|WC.region ?_
    refine WL.q rfl (r_cmp (r_eql rfl rfl) (beqF (q8))) ?_
    refine WL.q rfl (r_assign rfl) ?_
    refine WL.nil ?_
    refine WC.condF rfl ?_
    refine WC.seq<|WC.region ?_
    refine WL.q rfl (r_cmp (r_eql rfl rfl) (beqT (q9))) ?_
    refine WL.q rfl (r_assign rfl) ?_
    refine WL.nil ?_
    refine WC.condT rfl ?_
    refine WC.seq<|WC.region ?_
    refine WL.q rfl (r_bld (cs:=[_,_,_,_]) bld_96 rfl rfl) ?_
    refine WL.l0 (l_storeW sz_96 rfl rfl (by first|rfl|assumption|(simp[*];done)|simp[Value.oneCell', *]) (by first|rfl|simp[*]) hb1 (by first|rfl|simp[*])) fun _ w2 hh=>?_
    obtain⟨hb1,e2,hz2⟩:=hh
    refine WL.nil ?_
    refine WC.ret ?_
    replace he:=he.then (e1.then e2)
    exact finC rfl hb1 agg_96 ⟨⟨_,_,by rw[qt]⟩,he.weaken fun b hb _=>hb⟩
  rcases Decidable.em (z=203)with q10|q10
  · have qt:tyI z=5:=(by unfold tyI;repeat (first|rw[if_pos (by omega)]|rw[if_neg (by omega)]))
    refine doesR Tryz.func57 rfl rfl rfl ?_
    have he:Evo (fun b=>b<w.heap.size) w w:=Evo.refl w
    refine WC.seq<|WC.region ?_
    have hs1:=he.size
    refine WL.l rfl (l_alloc zt_96 rfl) fun _ w1 hh=>?_
    obtain⟨rfl,hb1,e1⟩:=hh
    refine WL.nil ?_
    refine WC.seq<|WC.seq<|WC.region ?_
    refine WL.q rfl (r_move rfl) ?_
    refine WL.nil ?_
    refine WC.block ?_
    refine WC.seq<|WC.region ?_
    refine WL.q rfl (r_cmp (r_eql rfl rfl) (beqF (q0))) ?_
    refine WL.q rfl (r_assign rfl) ?_
    refine WL.nil ?_
    refine WC.condF rfl ?_
    refine WC.seq<|WC.region ?_
    refine WL.q rfl (r_cmp (r_eql rfl rfl) (beqF (q1))) ?_
    refine WL.q rfl (r_assign rfl) ?_
    refine WL.nil ?_
    refine WC.condF rfl ?_
    refine WC.seq<|WC.region ?_
    refine WL.q rfl (r_cmp (r_eql rfl rfl) (beqF (q2))) ?_
    refine WL.q rfl (r_assign rfl) ?_
    refine WL.nil ?_
    refine WC.condF rfl ?_
    refine WC.seq<|WC.region ?_
    refine WL.q rfl (r_cmp (r_eql rfl rfl) (beqF (q3))) ?_
    refine WL.q rfl (r_assign rfl) ?_
    refine WL.nil ?_
    refine WC.condF rfl ?_
    refine WC.seq<|WC.region ?_
    refine WL.q rfl (r_cmp (r_eql rfl rfl) (beqF (q4))) ?_
    refine WL.q rfl (r_assign rfl) ?_
    refine WL.nil ?_
    refine WC.condF rfl ?_
    refine WC.seq<|WC.region ?_
    refine WL.q rfl (r_cmp (r_eql rfl rfl) (beqF (q5))) ?_
    refine WL.q rfl (r_assign rfl) ?_
    refine WL.nil ?_
    refine WC.condF rfl ?_
    refine WC.seq<|WC.region ?_
    refine WL.q rfl (r_cmp (r_eql rfl rfl) (beqF (q6))) ?_
    refine WL.q rfl (r_assign rfl) ?_
    refine WL.nil ?_
    refine WC.condF rfl ?_
    refine WC.seq<|WC.region ?_
    refine WL.q rfl (r_cmp (r_eql rfl rfl) (beqF (q7))) ?_
    refine WL.q rfl (r_assign rfl) ?_
    refine WL.nil ?_
    refine WC.condF rfl ?_
    refine WC.seq<|WC.region ?_
    refine WL.q rfl (r_cmp (r_eql rfl rfl) (beqF (q8))) ?_
    refine WL.q rfl (r_assign rfl) ?_
    refine WL.nil ?_
    refine WC.condF rfl ?_
    refine WC.seq<|WC.region ?_
    refine WL.q rfl (r_cmp (r_eql rfl rfl) (beqF (q9))) ?_
    refine WL.q rfl (r_assign rfl) ?_
    refine WL.nil ?_
    refine WC.condF rfl ?_
    refine WC.seq<|WC.region ?_
    refine WL.q rfl (r_cmp (r_eql rfl rfl) (beqT (q10))) ?_
    refine WL.q rfl (r_assign rfl) ?_
    refine WL.nil ?_
    refine WC.condT rfl ?_
    refine WC.seq<|WC.region ?_
    refine WL.q rfl (r_bld (cs:=[_,_,_,_]) bld_96 rfl rfl) ?_
    refine WL.l0 (l_storeW sz_96 rfl rfl (by first|rfl|assumption|(simp[*];done)|simp[Value.oneCell', *]) (by first|rfl|simp[*]) hb1 (by first|rfl|simp[*])) fun _ w2 hh=>?_
    obtain⟨hb1,e2,hz2⟩:=hh
    refine WL.nil ?_
    refine WC.ret ?_
    replace he:=he.then (e1.then e2)
    exact finC rfl hb1 agg_96 ⟨⟨_,_,by rw[qt]⟩,he.weaken fun b hb _=>hb⟩
  rcases Decidable.em (z=204)with q11|q11
  · have qt:tyI z=9:=(by unfold tyI;repeat (first|rw[if_pos (by omega)]|rw[if_neg (by omega)]))
    refine doesR Tryz.func57 rfl rfl rfl ?_
    have he:Evo (fun b=>b<w.heap.size) w w:=Evo.refl w
    refine WC.seq<|WC.region ?_
    have hs1:=he.size
    refine WL.l rfl (l_alloc zt_96 rfl) fun _ w1 hh=>?_
    obtain⟨rfl,hb1,e1⟩:=hh
    refine WL.nil ?_
    refine WC.seq<|WC.seq<|WC.region ?_
    refine WL.q rfl (r_move rfl) ?_
    refine WL.nil ?_
    refine WC.block ?_
    refine WC.seq<|WC.region ?_
    refine WL.q rfl (r_cmp (r_eql rfl rfl) (beqF (q0))) ?_
    refine WL.q rfl (r_assign rfl) ?_
    refine WL.nil ?_
    refine WC.condF rfl ?_
    refine WC.seq<|WC.region ?_
    refine WL.q rfl (r_cmp (r_eql rfl rfl) (beqF (q1))) ?_
    refine WL.q rfl (r_assign rfl) ?_
    refine WL.nil ?_
    refine WC.condF rfl ?_
    refine WC.seq<|WC.region ?_
    refine WL.q rfl (r_cmp (r_eql rfl rfl) (beqF (q2))) ?_
    refine WL.q rfl (r_assign rfl) ?_
    refine WL.nil ?_
    refine WC.condF rfl ?_
    refine WC.seq<|WC.region ?_
    refine WL.q rfl (r_cmp (r_eql rfl rfl) (beqF (q3))) ?_
    refine WL.q rfl (r_assign rfl) ?_
    refine WL.nil ?_
    refine WC.condF rfl ?_
    refine WC.seq<|WC.region ?_
    refine WL.q rfl (r_cmp (r_eql rfl rfl) (beqF (q4))) ?_
    refine WL.q rfl (r_assign rfl) ?_
    refine WL.nil ?_
    refine WC.condF rfl ?_
    refine WC.seq<|WC.region ?_
    refine WL.q rfl (r_cmp (r_eql rfl rfl) (beqF (q5))) ?_
    refine WL.q rfl (r_assign rfl) ?_
    refine WL.nil ?_
    refine WC.condF rfl ?_
    refine WC.seq<|WC.region ?_
    refine WL.q rfl (r_cmp (r_eql rfl rfl) (beqF (q6))) ?_
    refine WL.q rfl (r_assign rfl) ?_
    refine WL.nil ?_
    refine WC.condF rfl ?_
    refine WC.seq<|WC.region ?_
    refine WL.q rfl (r_cmp (r_eql rfl rfl) (beqF (q7))) ?_
    refine WL.q rfl (r_assign rfl) ?_
    refine WL.nil ?_
    refine WC.condF rfl ?_
    refine WC.seq<|WC.region ?_
    refine WL.q rfl (r_cmp (r_eql rfl rfl) (beqF (q8))) ?_
    refine WL.q rfl (r_assign rfl) ?_
    refine WL.nil ?_
    refine WC.condF rfl ?_
    refine WC.seq<|WC.region ?_
    refine WL.q rfl (r_cmp (r_eql rfl rfl) (beqF (q9))) ?_
    refine WL.q rfl (r_assign rfl) ?_
    refine WL.nil ?_
    refine WC.condF rfl ?_
    refine WC.seq<|WC.region ?_
    refine WL.q rfl (r_cmp (r_eql rfl rfl) (beqF (q10))) ?_
    refine WL.q rfl (r_assign rfl) ?_
    refine WL.nil ?_
    refine WC.condF rfl ?_
    refine WC.seq<|WC.region ?_
    refine WL.q rfl (r_cmp (r_eql rfl rfl) (beqT (q11))) ?_
    refine WL.q rfl (r_assign rfl) ?_
    refine WL.nil ?_
    refine WC.condT rfl ?_
    refine WC.seq<|WC.region ?_
    refine WL.q rfl (r_bld (cs:=[_,_,_,_]) bld_96 rfl rfl) ?_
    refine WL.l0 (l_storeW sz_96 rfl rfl (by first|rfl|assumption|(simp[*];done)|simp[Value.oneCell', *]) (by first|rfl|simp[*]) hb1 (by first|rfl|simp[*])) fun _ w2 hh=>?_
    obtain⟨hb1,e2,hz2⟩:=hh
    refine WL.nil ?_
    refine WC.ret ?_
    replace he:=he.then (e1.then e2)
    exact finC rfl hb1 agg_96 ⟨⟨_,_,by rw[qt]⟩,he.weaken fun b hb _=>hb⟩
  rcases Decidable.em (z=205)with q12|q12
  · have qt:tyI z=9:=(by unfold tyI;repeat (first|rw[if_pos (by omega)]|rw[if_neg (by omega)]))
    refine doesR Tryz.func57 rfl rfl rfl ?_
    have he:Evo (fun b=>b<w.heap.size) w w:=Evo.refl w
    refine WC.seq<|WC.region ?_
    have hs1:=he.size
    refine WL.l rfl (l_alloc zt_96 rfl) fun _ w1 hh=>?_
    obtain⟨rfl,hb1,e1⟩:=hh
    refine WL.nil ?_
    refine WC.seq<|WC.seq<|WC.region ?_
    refine WL.q rfl (r_move rfl) ?_
    refine WL.nil ?_
    refine WC.block ?_
    refine WC.seq<|WC.region ?_
    refine WL.q rfl (r_cmp (r_eql rfl rfl) (beqF (q0))) ?_
    refine WL.q rfl (r_assign rfl) ?_
    refine WL.nil ?_
    refine WC.condF rfl ?_
    refine WC.seq<|WC.region ?_
    refine WL.q rfl (r_cmp (r_eql rfl rfl) (beqF (q1))) ?_
    refine WL.q rfl (r_assign rfl) ?_
    refine WL.nil ?_
    refine WC.condF rfl ?_
    refine WC.seq<|WC.region ?_
    refine WL.q rfl (r_cmp (r_eql rfl rfl) (beqF (q2))) ?_
    refine WL.q rfl (r_assign rfl) ?_
    refine WL.nil ?_
    refine WC.condF rfl ?_
    refine WC.seq<|WC.region ?_
    refine WL.q rfl (r_cmp (r_eql rfl rfl) (beqF (q3))) ?_
    refine WL.q rfl (r_assign rfl) ?_
    refine WL.nil ?_
    refine WC.condF rfl ?_
    refine WC.seq<|WC.region ?_
    refine WL.q rfl (r_cmp (r_eql rfl rfl) (beqF (q4))) ?_
    refine WL.q rfl (r_assign rfl) ?_
    refine WL.nil ?_
    refine WC.condF rfl ?_
    refine WC.seq<|WC.region ?_
    refine WL.q rfl (r_cmp (r_eql rfl rfl) (beqF (q5))) ?_
    refine WL.q rfl (r_assign rfl) ?_
    refine WL.nil ?_
    refine WC.condF rfl ?_
    refine WC.seq<|WC.region ?_
    refine WL.q rfl (r_cmp (r_eql rfl rfl) (beqF (q6))) ?_
    refine WL.q rfl (r_assign rfl) ?_
    refine WL.nil ?_
    refine WC.condF rfl ?_
    refine WC.seq<|WC.region ?_
    refine WL.q rfl (r_cmp (r_eql rfl rfl) (beqF (q7))) ?_
    refine WL.q rfl (r_assign rfl) ?_
    refine WL.nil ?_
    refine WC.condF rfl ?_
    refine WC.seq<|WC.region ?_
    refine WL.q rfl (r_cmp (r_eql rfl rfl) (beqF (q8))) ?_
    refine WL.q rfl (r_assign rfl) ?_
    refine WL.nil ?_
    refine WC.condF rfl ?_
    refine WC.seq<|WC.region ?_
    refine WL.q rfl (r_cmp (r_eql rfl rfl) (beqF (q9))) ?_
    refine WL.q rfl (r_assign rfl) ?_
    refine WL.nil ?_
    refine WC.condF rfl ?_
    refine WC.seq<|WC.region ?_
    refine WL.q rfl (r_cmp (r_eql rfl rfl) (beqF (q10))) ?_
    refine WL.q rfl (r_assign rfl) ?_
    refine WL.nil ?_
    refine WC.condF rfl ?_
    refine WC.seq<|WC.region ?_
    refine WL.q rfl (r_cmp (r_eql rfl rfl) (beqF (q11))) ?_
    refine WL.q rfl (r_assign rfl) ?_
    refine WL.nil ?_
    refine WC.condF rfl ?_
    refine WC.seq<|WC.region ?_
    refine WL.q rfl (r_cmp (r_eql rfl rfl) (beqT (q12))) ?_
    refine WL.q rfl (r_assign rfl) ?_
    refine WL.nil ?_
    refine WC.condT rfl ?_
    refine WC.seq<|WC.region ?_
    refine WL.q rfl (r_bld (cs:=[_,_,_,_]) bld_96 rfl rfl) ?_
    refine WL.l0 (l_storeW sz_96 rfl rfl (by first|rfl|assumption|(simp[*];done)|simp[Value.oneCell', *]) (by first|rfl|simp[*]) hb1 (by first|rfl|simp[*])) fun _ w2 hh=>?_
    obtain⟨hb1,e2,hz2⟩:=hh
    refine WL.nil ?_
    refine WC.ret ?_
    replace he:=he.then (e1.then e2)
    exact finC rfl hb1 agg_96 ⟨⟨_,_,by rw[qt]⟩,he.weaken fun b hb _=>hb⟩
  rcases Decidable.em (z=206)with q13|q13
  · have qt:tyI z=9:=(by unfold tyI;repeat (first|rw[if_pos (by omega)]|rw[if_neg (by omega)]))
    refine doesR Tryz.func57 rfl rfl rfl ?_
    have he:Evo (fun b=>b<w.heap.size) w w:=Evo.refl w
    refine WC.seq<|WC.region ?_
    have hs1:=he.size
    refine WL.l rfl (l_alloc zt_96 rfl) fun _ w1 hh=>?_
    obtain⟨rfl,hb1,e1⟩:=hh
    refine WL.nil ?_
    refine WC.seq<|WC.seq<|WC.region ?_
    refine WL.q rfl (r_move rfl) ?_
    refine WL.nil ?_
    refine WC.block ?_
    refine WC.seq<|WC.region ?_
    refine WL.q rfl (r_cmp (r_eql rfl rfl) (beqF (q0))) ?_
    refine WL.q rfl (r_assign rfl) ?_
    refine WL.nil ?_
    refine WC.condF rfl ?_
    refine WC.seq<|WC.region ?_
    refine WL.q rfl (r_cmp (r_eql rfl rfl) (beqF (q1))) ?_
    refine WL.q rfl (r_assign rfl) ?_
    refine WL.nil ?_
    refine WC.condF rfl ?_
    refine WC.seq<|WC.region ?_
    refine WL.q rfl (r_cmp (r_eql rfl rfl) (beqF (q2))) ?_
    refine WL.q rfl (r_assign rfl) ?_
    refine WL.nil ?_
    refine WC.condF rfl ?_
    refine WC.seq<|WC.region ?_
    refine WL.q rfl (r_cmp (r_eql rfl rfl) (beqF (q3))) ?_
    refine WL.q rfl (r_assign rfl) ?_
    refine WL.nil ?_
    refine WC.condF rfl ?_
    refine WC.seq<|WC.region ?_
    refine WL.q rfl (r_cmp (r_eql rfl rfl) (beqF (q4))) ?_
    refine WL.q rfl (r_assign rfl) ?_
    refine WL.nil ?_
    refine WC.condF rfl ?_
    refine WC.seq<|WC.region ?_
    refine WL.q rfl (r_cmp (r_eql rfl rfl) (beqF (q5))) ?_
    refine WL.q rfl (r_assign rfl) ?_
    refine WL.nil ?_
    refine WC.condF rfl ?_
    refine WC.seq<|WC.region ?_
    refine WL.q rfl (r_cmp (r_eql rfl rfl) (beqF (q6))) ?_
    refine WL.q rfl (r_assign rfl) ?_
    refine WL.nil ?_
    refine WC.condF rfl ?_
    refine WC.seq<|WC.region ?_
    refine WL.q rfl (r_cmp (r_eql rfl rfl) (beqF (q7))) ?_
    refine WL.q rfl (r_assign rfl) ?_
    refine WL.nil ?_
    refine WC.condF rfl ?_
    refine WC.seq<|WC.region ?_
    refine WL.q rfl (r_cmp (r_eql rfl rfl) (beqF (q8))) ?_
    refine WL.q rfl (r_assign rfl) ?_
    refine WL.nil ?_
    refine WC.condF rfl ?_
    refine WC.seq<|WC.region ?_
    refine WL.q rfl (r_cmp (r_eql rfl rfl) (beqF (q9))) ?_
    refine WL.q rfl (r_assign rfl) ?_
    refine WL.nil ?_
    refine WC.condF rfl ?_
    refine WC.seq<|WC.region ?_
    refine WL.q rfl (r_cmp (r_eql rfl rfl) (beqF (q10))) ?_
    refine WL.q rfl (r_assign rfl) ?_
    refine WL.nil ?_
    refine WC.condF rfl ?_
    refine WC.seq<|WC.region ?_
    refine WL.q rfl (r_cmp (r_eql rfl rfl) (beqF (q11))) ?_
    refine WL.q rfl (r_assign rfl) ?_
    refine WL.nil ?_
    refine WC.condF rfl ?_
    refine WC.seq<|WC.region ?_
    refine WL.q rfl (r_cmp (r_eql rfl rfl) (beqF (q12))) ?_
    refine WL.q rfl (r_assign rfl) ?_
    refine WL.nil ?_
    refine WC.condF rfl ?_
    refine WC.seq<|WC.region ?_
    refine WL.q rfl (r_cmp (r_eql rfl rfl) (beqT (q13))) ?_
    refine WL.q rfl (r_assign rfl) ?_
    refine WL.nil ?_
    refine WC.condT rfl ?_
    refine WC.seq<|WC.region ?_
    refine WL.q rfl (r_bld (cs:=[_,_,_,_]) bld_96 rfl rfl) ?_
    refine WL.l0 (l_storeW sz_96 rfl rfl (by first|rfl|assumption|(simp[*];done)|simp[Value.oneCell', *]) (by first|rfl|simp[*]) hb1 (by first|rfl|simp[*])) fun _ w2 hh=>?_
    obtain⟨hb1,e2,hz2⟩:=hh
    refine WL.nil ?_
    refine WC.ret ?_
    replace he:=he.then (e1.then e2)
    exact finC rfl hb1 agg_96 ⟨⟨_,_,by rw[qt]⟩,he.weaken fun b hb _=>hb⟩
  rcases Decidable.em (z=207)with q14|q14
  · have qt:tyI z=9:=(by unfold tyI;repeat (first|rw[if_pos (by omega)]|rw[if_neg (by omega)]))
    refine doesR Tryz.func57 rfl rfl rfl ?_
    have he:Evo (fun b=>b<w.heap.size) w w:=Evo.refl w
    refine WC.seq<|WC.region ?_
    have hs1:=he.size
    refine WL.l rfl (l_alloc zt_96 rfl) fun _ w1 hh=>?_
    obtain⟨rfl,hb1,e1⟩:=hh
    refine WL.nil ?_
    refine WC.seq<|WC.seq<|WC.region ?_
    refine WL.q rfl (r_move rfl) ?_
    refine WL.nil ?_
    refine WC.block ?_
    refine WC.seq<|WC.region ?_
    refine WL.q rfl (r_cmp (r_eql rfl rfl) (beqF (q0))) ?_
    refine WL.q rfl (r_assign rfl) ?_
    refine WL.nil ?_
    refine WC.condF rfl ?_
    refine WC.seq<|WC.region ?_
    refine WL.q rfl (r_cmp (r_eql rfl rfl) (beqF (q1))) ?_
    refine WL.q rfl (r_assign rfl) ?_
    refine WL.nil ?_
    refine WC.condF rfl ?_
    refine WC.seq<|WC.region ?_
    refine WL.q rfl (r_cmp (r_eql rfl rfl) (beqF (q2))) ?_
    refine WL.q rfl (r_assign rfl) ?_
    refine WL.nil ?_
    refine WC.condF rfl ?_
    refine WC.seq<|WC.region ?_
    refine WL.q rfl (r_cmp (r_eql rfl rfl) (beqF (q3))) ?_
    refine WL.q rfl (r_assign rfl) ?_
    refine WL.nil ?_
    refine WC.condF rfl ?_
    refine WC.seq<|WC.region ?_
    refine WL.q rfl (r_cmp (r_eql rfl rfl) (beqF (q4))) ?_
    refine WL.q rfl (r_assign rfl) ?_
    refine WL.nil ?_
    refine WC.condF rfl ?_
    refine WC.seq<|WC.region ?_
    refine WL.q rfl (r_cmp (r_eql rfl rfl) (beqF (q5))) ?_
    refine WL.q rfl (r_assign rfl) ?_
    refine WL.nil ?_
    refine WC.condF rfl ?_
    refine WC.seq<|WC.region ?_
    refine WL.q rfl (r_cmp (r_eql rfl rfl) (beqF (q6))) ?_
    refine WL.q rfl (r_assign rfl) ?_
    refine WL.nil ?_
    refine WC.condF rfl ?_
    refine WC.seq<|WC.region ?_
    refine WL.q rfl (r_cmp (r_eql rfl rfl) (beqF (q7))) ?_
    refine WL.q rfl (r_assign rfl) ?_
    refine WL.nil ?_
    refine WC.condF rfl ?_
    refine WC.seq<|WC.region ?_
    refine WL.q rfl (r_cmp (r_eql rfl rfl) (beqF (q8))) ?_
    refine WL.q rfl (r_assign rfl) ?_
    refine WL.nil ?_
    refine WC.condF rfl ?_
    refine WC.seq<|WC.region ?_
    refine WL.q rfl (r_cmp (r_eql rfl rfl) (beqF (q9))) ?_
    refine WL.q rfl (r_assign rfl) ?_
    refine WL.nil ?_
    refine WC.condF rfl ?_
    refine WC.seq<|WC.region ?_
    refine WL.q rfl (r_cmp (r_eql rfl rfl) (beqF (q10))) ?_
    refine WL.q rfl (r_assign rfl) ?_
    refine WL.nil ?_
    refine WC.condF rfl ?_
    refine WC.seq<|WC.region ?_
    refine WL.q rfl (r_cmp (r_eql rfl rfl) (beqF (q11))) ?_
    refine WL.q rfl (r_assign rfl) ?_
    refine WL.nil ?_
    refine WC.condF rfl ?_
    refine WC.seq<|WC.region ?_
    refine WL.q rfl (r_cmp (r_eql rfl rfl) (beqF (q12))) ?_
    refine WL.q rfl (r_assign rfl) ?_
    refine WL.nil ?_
    refine WC.condF rfl ?_
    refine WC.seq<|WC.region ?_
    refine WL.q rfl (r_cmp (r_eql rfl rfl) (beqF (q13))) ?_
    refine WL.q rfl (r_assign rfl) ?_
    refine WL.nil ?_
    refine WC.condF rfl ?_
    refine WC.seq<|WC.region ?_
    refine WL.q rfl (r_cmp (r_eql rfl rfl) (beqT (q14))) ?_
    refine WL.q rfl (r_assign rfl) ?_
    refine WL.nil ?_
    refine WC.condT rfl ?_
    refine WC.seq<|WC.region ?_
    refine WL.q rfl (r_bld (cs:=[_,_,_,_]) bld_96 rfl rfl) ?_
    refine WL.l0 (l_storeW sz_96 rfl rfl (by first|rfl|assumption|(simp[*];done)|simp[Value.oneCell', *]) (by first|rfl|simp[*]) hb1 (by first|rfl|simp[*])) fun _ w2 hh=>?_
    obtain⟨hb1,e2,hz2⟩:=hh
    refine WL.nil ?_
    refine WC.ret ?_
    replace he:=he.then (e1.then e2)
    exact finC rfl hb1 agg_96 ⟨⟨_,_,by rw[qt]⟩,he.weaken fun b hb _=>hb⟩
  rcases Decidable.em (z=208)with q15|q15
  · have qt:tyI z=8:=(by unfold tyI;repeat (first|rw[if_pos (by omega)]|rw[if_neg (by omega)]))
    refine doesR Tryz.func57 rfl rfl rfl ?_
    have he:Evo (fun b=>b<w.heap.size) w w:=Evo.refl w
    refine WC.seq<|WC.region ?_
    have hs1:=he.size
    refine WL.l rfl (l_alloc zt_96 rfl) fun _ w1 hh=>?_
    obtain⟨rfl,hb1,e1⟩:=hh
    refine WL.nil ?_
    refine WC.seq<|WC.seq<|WC.region ?_
    refine WL.q rfl (r_move rfl) ?_
    refine WL.nil ?_
    refine WC.block ?_
    refine WC.seq<|WC.region ?_
    refine WL.q rfl (r_cmp (r_eql rfl rfl) (beqF (q0))) ?_
    refine WL.q rfl (r_assign rfl) ?_
    refine WL.nil ?_
    refine WC.condF rfl ?_
    refine WC.seq<|WC.region ?_
    refine WL.q rfl (r_cmp (r_eql rfl rfl) (beqF (q1))) ?_
    refine WL.q rfl (r_assign rfl) ?_
    refine WL.nil ?_
    refine WC.condF rfl ?_
    refine WC.seq<|WC.region ?_
    refine WL.q rfl (r_cmp (r_eql rfl rfl) (beqF (q2))) ?_
    refine WL.q rfl (r_assign rfl) ?_
    refine WL.nil ?_
    refine WC.condF rfl ?_
    refine WC.seq<|WC.region ?_
    refine WL.q rfl (r_cmp (r_eql rfl rfl) (beqF (q3))) ?_
    refine WL.q rfl (r_assign rfl) ?_
    refine WL.nil ?_
    refine WC.condF rfl ?_
    refine WC.seq<|WC.region ?_
    refine WL.q rfl (r_cmp (r_eql rfl rfl) (beqF (q4))) ?_
    refine WL.q rfl (r_assign rfl) ?_
    refine WL.nil ?_
    refine WC.condF rfl ?_
    refine WC.seq<|WC.region ?_
    refine WL.q rfl (r_cmp (r_eql rfl rfl) (beqF (q5))) ?_
    refine WL.q rfl (r_assign rfl) ?_
    refine WL.nil ?_
    refine WC.condF rfl ?_
    refine WC.seq<|WC.region ?_
    refine WL.q rfl (r_cmp (r_eql rfl rfl) (beqF (q6))) ?_
    refine WL.q rfl (r_assign rfl) ?_
    refine WL.nil ?_
    refine WC.condF rfl ?_
    refine WC.seq<|WC.region ?_
    refine WL.q rfl (r_cmp (r_eql rfl rfl) (beqF (q7))) ?_
    refine WL.q rfl (r_assign rfl) ?_
    refine WL.nil ?_
    refine WC.condF rfl ?_
    refine WC.seq<|WC.region ?_
    refine WL.q rfl (r_cmp (r_eql rfl rfl) (beqF (q8))) ?_
    refine WL.q rfl (r_assign rfl) ?_
    refine WL.nil ?_
    refine WC.condF rfl ?_
    refine WC.seq<|WC.region ?_
    refine WL.q rfl (r_cmp (r_eql rfl rfl) (beqF (q9))) ?_
    refine WL.q rfl (r_assign rfl) ?_
    refine WL.nil ?_
    refine WC.condF rfl ?_
    refine WC.seq<|WC.region ?_
    refine WL.q rfl (r_cmp (r_eql rfl rfl) (beqF (q10))) ?_
    refine WL.q rfl (r_assign rfl) ?_
    refine WL.nil ?_
    refine WC.condF rfl ?_
    refine WC.seq<|WC.region ?_
    refine WL.q rfl (r_cmp (r_eql rfl rfl) (beqF (q11))) ?_
    refine WL.q rfl (r_assign rfl) ?_
    refine WL.nil ?_
    refine WC.condF rfl ?_
    refine WC.seq<|WC.region ?_
    refine WL.q rfl (r_cmp (r_eql rfl rfl) (beqF (q12))) ?_
    refine WL.q rfl (r_assign rfl) ?_
    refine WL.nil ?_
    refine WC.condF rfl ?_
    refine WC.seq<|WC.region ?_
    refine WL.q rfl (r_cmp (r_eql rfl rfl) (beqF (q13))) ?_
    refine WL.q rfl (r_assign rfl) ?_
    refine WL.nil ?_
    refine WC.condF rfl ?_
    refine WC.seq<|WC.region ?_
    refine WL.q rfl (r_cmp (r_eql rfl rfl) (beqF (q14))) ?_
    refine WL.q rfl (r_assign rfl) ?_
    refine WL.nil ?_
    refine WC.condF rfl ?_
    refine WC.seq<|WC.region ?_
    refine WL.q rfl (r_cmp (r_eql rfl rfl) (beqT (q15))) ?_
    refine WL.q rfl (r_assign rfl) ?_
    refine WL.nil ?_
    refine WC.condT rfl ?_
    refine WC.seq<|WC.region ?_
    refine WL.q rfl (r_bld (cs:=[_,_,_,_]) bld_96 rfl rfl) ?_
    refine WL.l0 (l_storeW sz_96 rfl rfl (by first|rfl|assumption|(simp[*];done)|simp[Value.oneCell', *]) (by first|rfl|simp[*]) hb1 (by first|rfl|simp[*])) fun _ w2 hh=>?_
    obtain⟨hb1,e2,hz2⟩:=hh
    refine WL.nil ?_
    refine WC.ret ?_
    replace he:=he.then (e1.then e2)
    exact finC rfl hb1 agg_96 ⟨⟨_,_,by rw[qt]⟩,he.weaken fun b hb _=>hb⟩
  rcases Decidable.em (z=209)with q16|q16
  · have qt:tyI z=8:=(by unfold tyI;repeat (first|rw[if_pos (by omega)]|rw[if_neg (by omega)]))
    refine doesR Tryz.func57 rfl rfl rfl ?_
    have he:Evo (fun b=>b<w.heap.size) w w:=Evo.refl w
    refine WC.seq<|WC.region ?_
    have hs1:=he.size
    refine WL.l rfl (l_alloc zt_96 rfl) fun _ w1 hh=>?_
    obtain⟨rfl,hb1,e1⟩:=hh
    refine WL.nil ?_
    refine WC.seq<|WC.seq<|WC.region ?_
    refine WL.q rfl (r_move rfl) ?_
    refine WL.nil ?_
    refine WC.block ?_
    refine WC.seq<|WC.region ?_
    refine WL.q rfl (r_cmp (r_eql rfl rfl) (beqF (q0))) ?_
    refine WL.q rfl (r_assign rfl) ?_
    refine WL.nil ?_
    refine WC.condF rfl ?_
    refine WC.seq<|WC.region ?_
    refine WL.q rfl (r_cmp (r_eql rfl rfl) (beqF (q1))) ?_
    refine WL.q rfl (r_assign rfl) ?_
    refine WL.nil ?_
    refine WC.condF rfl ?_
    refine WC.seq<|WC.region ?_
    refine WL.q rfl (r_cmp (r_eql rfl rfl) (beqF (q2))) ?_
    refine WL.q rfl (r_assign rfl) ?_
    refine WL.nil ?_
    refine WC.condF rfl ?_
    refine WC.seq<|WC.region ?_
    refine WL.q rfl (r_cmp (r_eql rfl rfl) (beqF (q3))) ?_
    refine WL.q rfl (r_assign rfl) ?_
    refine WL.nil ?_
    refine WC.condF rfl ?_
    refine WC.seq<|WC.region ?_
    refine WL.q rfl (r_cmp (r_eql rfl rfl) (beqF (q4))) ?_
    refine WL.q rfl (r_assign rfl) ?_
    refine WL.nil ?_
    refine WC.condF rfl ?_
    refine WC.seq<|WC.region ?_
    refine WL.q rfl (r_cmp (r_eql rfl rfl) (beqF (q5))) ?_
    refine WL.q rfl (r_assign rfl) ?_
    refine WL.nil ?_
    refine WC.condF rfl ?_
    refine WC.seq<|WC.region ?_
    refine WL.q rfl (r_cmp (r_eql rfl rfl) (beqF (q6))) ?_
    refine WL.q rfl (r_assign rfl) ?_
    refine WL.nil ?_
    refine WC.condF rfl ?_
    refine WC.seq<|WC.region ?_
    refine WL.q rfl (r_cmp (r_eql rfl rfl) (beqF (q7))) ?_
    refine WL.q rfl (r_assign rfl) ?_
    refine WL.nil ?_
    refine WC.condF rfl ?_
    refine WC.seq<|WC.region ?_
    refine WL.q rfl (r_cmp (r_eql rfl rfl) (beqF (q8))) ?_
    refine WL.q rfl (r_assign rfl) ?_
    refine WL.nil ?_
    refine WC.condF rfl ?_
    refine WC.seq<|WC.region ?_
    refine WL.q rfl (r_cmp (r_eql rfl rfl) (beqF (q9))) ?_
    refine WL.q rfl (r_assign rfl) ?_
    refine WL.nil ?_
    refine WC.condF rfl ?_
    refine WC.seq<|WC.region ?_
    refine WL.q rfl (r_cmp (r_eql rfl rfl) (beqF (q10))) ?_
    refine WL.q rfl (r_assign rfl) ?_
    refine WL.nil ?_
    refine WC.condF rfl ?_
    refine WC.seq<|WC.region ?_
    refine WL.q rfl (r_cmp (r_eql rfl rfl) (beqF (q11))) ?_
    refine WL.q rfl (r_assign rfl) ?_
    refine WL.nil ?_
    refine WC.condF rfl ?_
    refine WC.seq<|WC.region ?_
    refine WL.q rfl (r_cmp (r_eql rfl rfl) (beqF (q12))) ?_
    refine WL.q rfl (r_assign rfl) ?_
    refine WL.nil ?_
    refine WC.condF rfl ?_
    refine WC.seq<|WC.region ?_
    refine WL.q rfl (r_cmp (r_eql rfl rfl) (beqF (q13))) ?_
    refine WL.q rfl (r_assign rfl) ?_
    refine WL.nil ?_
    refine WC.condF rfl ?_
    refine WC.seq<|WC.region ?_
    refine WL.q rfl (r_cmp (r_eql rfl rfl) (beqF (q14))) ?_
    refine WL.q rfl (r_assign rfl) ?_
    refine WL.nil ?_
    refine WC.condF rfl ?_
    refine WC.seq<|WC.region ?_
    refine WL.q rfl (r_cmp (r_eql rfl rfl) (beqF (q15))) ?_
    refine WL.q rfl (r_assign rfl) ?_
    refine WL.nil ?_
    refine WC.condF rfl ?_
    refine WC.seq<|WC.region ?_
    refine WL.q rfl (r_cmp (r_eql rfl rfl) (beqT (q16))) ?_
    refine WL.q rfl (r_assign rfl) ?_
    refine WL.nil ?_
    refine WC.condT rfl ?_
    refine WC.seq<|WC.region ?_
    refine WL.q rfl (r_bld (cs:=[_,_,_,_]) bld_96 rfl rfl) ?_
    refine WL.l0 (l_storeW sz_96 rfl rfl (by first|rfl|assumption|(simp[*];done)|simp[Value.oneCell', *]) (by first|rfl|simp[*]) hb1 (by first|rfl|simp[*])) fun _ w2 hh=>?_
    obtain⟨hb1,e2,hz2⟩:=hh
    refine WL.nil ?_
    refine WC.ret ?_
    replace he:=he.then (e1.then e2)
    exact finC rfl hb1 agg_96 ⟨⟨_,_,by rw[qt]⟩,he.weaken fun b hb _=>hb⟩
  rcases Decidable.em (z=210)with q17|q17
  · have qt:tyI z=8:=(by unfold tyI;repeat (first|rw[if_pos (by omega)]|rw[if_neg (by omega)]))
    refine doesR Tryz.func57 rfl rfl rfl ?_
    have he:Evo (fun b=>b<w.heap.size) w w:=Evo.refl w
    refine WC.seq<|WC.region ?_
    have hs1:=he.size
    refine WL.l rfl (l_alloc zt_96 rfl) fun _ w1 hh=>?_
    obtain⟨rfl,hb1,e1⟩:=hh
    refine WL.nil ?_
    refine WC.seq<|WC.seq<|WC.region ?_
    refine WL.q rfl (r_move rfl) ?_
    refine WL.nil ?_
    refine WC.block ?_
    refine WC.seq<|WC.region ?_
    refine WL.q rfl (r_cmp (r_eql rfl rfl) (beqF (q0))) ?_
    refine WL.q rfl (r_assign rfl) ?_
    refine WL.nil ?_
    refine WC.condF rfl ?_
    refine WC.seq<|WC.region ?_
    refine WL.q rfl (r_cmp (r_eql rfl rfl) (beqF (q1))) ?_
    refine WL.q rfl (r_assign rfl) ?_
    refine WL.nil ?_
    refine WC.condF rfl ?_
    refine WC.seq<|WC.region ?_
    refine WL.q rfl (r_cmp (r_eql rfl rfl) (beqF (q2))) ?_
    refine WL.q rfl (r_assign rfl) ?_
    refine WL.nil ?_
    refine WC.condF rfl ?_
    refine WC.seq<|WC.region ?_
    refine WL.q rfl (r_cmp (r_eql rfl rfl) (beqF (q3))) ?_
    refine WL.q rfl (r_assign rfl) ?_
    refine WL.nil ?_
    refine WC.condF rfl ?_
    refine WC.seq<|WC.region ?_
    refine WL.q rfl (r_cmp (r_eql rfl rfl) (beqF (q4))) ?_
    refine WL.q rfl (r_assign rfl) ?_
    refine WL.nil ?_
    refine WC.condF rfl ?_
    refine WC.seq<|WC.region ?_
    refine WL.q rfl (r_cmp (r_eql rfl rfl) (beqF (q5))) ?_
    refine WL.q rfl (r_assign rfl) ?_
    refine WL.nil ?_
    refine WC.condF rfl ?_
    refine WC.seq<|WC.region ?_
    refine WL.q rfl (r_cmp (r_eql rfl rfl) (beqF (q6))) ?_
    refine WL.q rfl (r_assign rfl) ?_
    refine WL.nil ?_
    refine WC.condF rfl ?_
    refine WC.seq<|WC.region ?_
    refine WL.q rfl (r_cmp (r_eql rfl rfl) (beqF (q7))) ?_
    refine WL.q rfl (r_assign rfl) ?_
    refine WL.nil ?_
    refine WC.condF rfl ?_
    refine WC.seq<|WC.region ?_
    refine WL.q rfl (r_cmp (r_eql rfl rfl) (beqF (q8))) ?_
    refine WL.q rfl (r_assign rfl) ?_
    refine WL.nil ?_
    refine WC.condF rfl ?_
    refine WC.seq<|WC.region ?_
    refine WL.q rfl (r_cmp (r_eql rfl rfl) (beqF (q9))) ?_
    refine WL.q rfl (r_assign rfl) ?_
    refine WL.nil ?_
    refine WC.condF rfl ?_
    refine WC.seq<|WC.region ?_
    refine WL.q rfl (r_cmp (r_eql rfl rfl) (beqF (q10))) ?_
    refine WL.q rfl (r_assign rfl) ?_
    refine WL.nil ?_
    refine WC.condF rfl ?_
    refine WC.seq<|WC.region ?_
    refine WL.q rfl (r_cmp (r_eql rfl rfl) (beqF (q11))) ?_
    refine WL.q rfl (r_assign rfl) ?_
    refine WL.nil ?_
    refine WC.condF rfl ?_
    refine WC.seq<|WC.region ?_
    refine WL.q rfl (r_cmp (r_eql rfl rfl) (beqF (q12))) ?_
    refine WL.q rfl (r_assign rfl) ?_
    refine WL.nil ?_
    refine WC.condF rfl ?_
    refine WC.seq<|WC.region ?_
    refine WL.q rfl (r_cmp (r_eql rfl rfl) (beqF (q13))) ?_
    refine WL.q rfl (r_assign rfl) ?_
    refine WL.nil ?_
    refine WC.condF rfl ?_
    refine WC.seq<|WC.region ?_
    refine WL.q rfl (r_cmp (r_eql rfl rfl) (beqF (q14))) ?_
    refine WL.q rfl (r_assign rfl) ?_
    refine WL.nil ?_
    refine WC.condF rfl ?_
    refine WC.seq<|WC.region ?_
    refine WL.q rfl (r_cmp (r_eql rfl rfl) (beqF (q15))) ?_
    refine WL.q rfl (r_assign rfl) ?_
    refine WL.nil ?_
    refine WC.condF rfl ?_
    refine WC.seq<|WC.region ?_
    refine WL.q rfl (r_cmp (r_eql rfl rfl) (beqF (q16))) ?_
    refine WL.q rfl (r_assign rfl) ?_
    refine WL.nil ?_
    refine WC.condF rfl ?_
    refine WC.seq<|WC.region ?_
    refine WL.q rfl (r_cmp (r_eql rfl rfl) (beqT (q17))) ?_
    refine WL.q rfl (r_assign rfl) ?_
    refine WL.nil ?_
    refine WC.condT rfl ?_
    refine WC.seq<|WC.region ?_
    refine WL.q rfl (r_bld (cs:=[_,_,_,_]) bld_96 rfl rfl) ?_
    refine WL.l0 (l_storeW sz_96 rfl rfl (by first|rfl|assumption|(simp[*];done)|simp[Value.oneCell', *]) (by first|rfl|simp[*]) hb1 (by first|rfl|simp[*])) fun _ w2 hh=>?_
    obtain⟨hb1,e2,hz2⟩:=hh
    refine WL.nil ?_
    refine WC.ret ?_
    replace he:=he.then (e1.then e2)
    exact finC rfl hb1 agg_96 ⟨⟨_,_,by rw[qt]⟩,he.weaken fun b hb _=>hb⟩
  rcases Decidable.em (z=211)with q18|q18
  · have qt:tyI z=8:=(by unfold tyI;repeat (first|rw[if_pos (by omega)]|rw[if_neg (by omega)]))
    refine doesR Tryz.func57 rfl rfl rfl ?_
    have he:Evo (fun b=>b<w.heap.size) w w:=Evo.refl w
    refine WC.seq<|WC.region ?_
    have hs1:=he.size
    refine WL.l rfl (l_alloc zt_96 rfl) fun _ w1 hh=>?_
    obtain⟨rfl,hb1,e1⟩:=hh
    refine WL.nil ?_
    refine WC.seq<|WC.seq<|WC.region ?_
    refine WL.q rfl (r_move rfl) ?_
    refine WL.nil ?_
    refine WC.block ?_
    refine WC.seq<|WC.region ?_
    refine WL.q rfl (r_cmp (r_eql rfl rfl) (beqF (q0))) ?_
    refine WL.q rfl (r_assign rfl) ?_
    refine WL.nil ?_
    refine WC.condF rfl ?_
    refine WC.seq<|WC.region ?_
    refine WL.q rfl (r_cmp (r_eql rfl rfl) (beqF (q1))) ?_
    refine WL.q rfl (r_assign rfl) ?_
    refine WL.nil ?_
    refine WC.condF rfl ?_
    refine WC.seq<|WC.region ?_
    refine WL.q rfl (r_cmp (r_eql rfl rfl) (beqF (q2))) ?_
    refine WL.q rfl (r_assign rfl) ?_
    refine WL.nil ?_
    refine WC.condF rfl ?_
    refine WC.seq<|WC.region ?_
    refine WL.q rfl (r_cmp (r_eql rfl rfl) (beqF (q3))) ?_
    refine WL.q rfl (r_assign rfl) ?_
    refine WL.nil ?_
    refine WC.condF rfl ?_
    refine WC.seq<|WC.region ?_
    refine WL.q rfl (r_cmp (r_eql rfl rfl) (beqF (q4))) ?_
    refine WL.q rfl (r_assign rfl) ?_
    refine WL.nil ?_
    refine WC.condF rfl ?_
    refine WC.seq<|WC.region ?_
    refine WL.q rfl (r_cmp (r_eql rfl rfl) (beqF (q5))) ?_
    refine WL.q rfl (r_assign rfl) ?_
    refine WL.nil ?_
    refine WC.condF rfl ?_
    refine WC.seq<|WC.region ?_
    refine WL.q rfl (r_cmp (r_eql rfl rfl) (beqF (q6))) ?_
    refine WL.q rfl (r_assign rfl) ?_
    refine WL.nil ?_
    refine WC.condF rfl ?_
    refine WC.seq<|WC.region ?_
    refine WL.q rfl (r_cmp (r_eql rfl rfl) (beqF (q7))) ?_
    refine WL.q rfl (r_assign rfl) ?_
    refine WL.nil ?_
    refine WC.condF rfl ?_
    refine WC.seq<|WC.region ?_
    refine WL.q rfl (r_cmp (r_eql rfl rfl) (beqF (q8))) ?_
    refine WL.q rfl (r_assign rfl) ?_
    refine WL.nil ?_
    refine WC.condF rfl ?_
    refine WC.seq<|WC.region ?_
    refine WL.q rfl (r_cmp (r_eql rfl rfl) (beqF (q9))) ?_
    refine WL.q rfl (r_assign rfl) ?_
    refine WL.nil ?_
    refine WC.condF rfl ?_
    refine WC.seq<|WC.region ?_
    refine WL.q rfl (r_cmp (r_eql rfl rfl) (beqF (q10))) ?_
    refine WL.q rfl (r_assign rfl) ?_
    refine WL.nil ?_
    refine WC.condF rfl ?_
    refine WC.seq<|WC.region ?_
    refine WL.q rfl (r_cmp (r_eql rfl rfl) (beqF (q11))) ?_
    refine WL.q rfl (r_assign rfl) ?_
    refine WL.nil ?_
    refine WC.condF rfl ?_
    refine WC.seq<|WC.region ?_
    refine WL.q rfl (r_cmp (r_eql rfl rfl) (beqF (q12))) ?_
    refine WL.q rfl (r_assign rfl) ?_
    refine WL.nil ?_
    refine WC.condF rfl ?_
    refine WC.seq<|WC.region ?_
    refine WL.q rfl (r_cmp (r_eql rfl rfl) (beqF (q13))) ?_
    refine WL.q rfl (r_assign rfl) ?_
    refine WL.nil ?_
    refine WC.condF rfl ?_
    refine WC.seq<|WC.region ?_
    refine WL.q rfl (r_cmp (r_eql rfl rfl) (beqF (q14))) ?_
    refine WL.q rfl (r_assign rfl) ?_
    refine WL.nil ?_
    refine WC.condF rfl ?_
    refine WC.seq<|WC.region ?_
    refine WL.q rfl (r_cmp (r_eql rfl rfl) (beqF (q15))) ?_
    refine WL.q rfl (r_assign rfl) ?_
    refine WL.nil ?_
    refine WC.condF rfl ?_
    refine WC.seq<|WC.region ?_
    refine WL.q rfl (r_cmp (r_eql rfl rfl) (beqF (q16))) ?_
    refine WL.q rfl (r_assign rfl) ?_
    refine WL.nil ?_
    refine WC.condF rfl ?_
    refine WC.seq<|WC.region ?_
    refine WL.q rfl (r_cmp (r_eql rfl rfl) (beqF (q17))) ?_
    refine WL.q rfl (r_assign rfl) ?_
    refine WL.nil ?_
    refine WC.condF rfl ?_
    refine WC.seq<|WC.region ?_
    refine WL.q rfl (r_cmp (r_eql rfl rfl) (beqT (q18))) ?_
    refine WL.q rfl (r_assign rfl) ?_
    refine WL.nil ?_
    refine WC.condT rfl ?_
    refine WC.seq<|WC.region ?_
    refine WL.q rfl (r_bld (cs:=[_,_,_,_]) bld_96 rfl rfl) ?_
    refine WL.l0 (l_storeW sz_96 rfl rfl (by first|rfl|assumption|(simp[*];done)|simp[Value.oneCell', *]) (by first|rfl|simp[*]) hb1 (by first|rfl|simp[*])) fun _ w2 hh=>?_
    obtain⟨hb1,e2,hz2⟩:=hh
    refine WL.nil ?_
    refine WC.ret ?_
    replace he:=he.then (e1.then e2)
    exact finC rfl hb1 agg_96 ⟨⟨_,_,by rw[qt]⟩,he.weaken fun b hb _=>hb⟩
  rcases Decidable.em (z=212)with q19|q19
  · have qt:tyI z=12:=(by unfold tyI;repeat (first|rw[if_pos (by omega)]|rw[if_neg (by omega)]))
    refine doesR Tryz.func57 rfl rfl rfl ?_
    have he:Evo (fun b=>b<w.heap.size) w w:=Evo.refl w
    refine WC.seq<|WC.region ?_
    have hs1:=he.size
    refine WL.l rfl (l_alloc zt_96 rfl) fun _ w1 hh=>?_
    obtain⟨rfl,hb1,e1⟩:=hh
    refine WL.nil ?_
    refine WC.seq<|WC.seq<|WC.region ?_
    refine WL.q rfl (r_move rfl) ?_
    refine WL.nil ?_
    refine WC.block ?_
    refine WC.seq<|WC.region ?_
    refine WL.q rfl (r_cmp (r_eql rfl rfl) (beqF (q0))) ?_
    refine WL.q rfl (r_assign rfl) ?_
    refine WL.nil ?_
    refine WC.condF rfl ?_
    refine WC.seq<|WC.region ?_
    refine WL.q rfl (r_cmp (r_eql rfl rfl) (beqF (q1))) ?_
    refine WL.q rfl (r_assign rfl) ?_
    refine WL.nil ?_
    refine WC.condF rfl ?_
    refine WC.seq<|WC.region ?_
    refine WL.q rfl (r_cmp (r_eql rfl rfl) (beqF (q2))) ?_
    refine WL.q rfl (r_assign rfl) ?_
    refine WL.nil ?_
    refine WC.condF rfl ?_
    refine WC.seq<|WC.region ?_
    refine WL.q rfl (r_cmp (r_eql rfl rfl) (beqF (q3))) ?_
    refine WL.q rfl (r_assign rfl) ?_
    refine WL.nil ?_
    refine WC.condF rfl ?_
    refine WC.seq<|WC.region ?_
    refine WL.q rfl (r_cmp (r_eql rfl rfl) (beqF (q4))) ?_
    refine WL.q rfl (r_assign rfl) ?_
    refine WL.nil ?_
    refine WC.condF rfl ?_
    refine WC.seq<|WC.region ?_
    refine WL.q rfl (r_cmp (r_eql rfl rfl) (beqF (q5))) ?_
    refine WL.q rfl (r_assign rfl) ?_
    refine WL.nil ?_
    refine WC.condF rfl ?_
    refine WC.seq<|WC.region ?_
    refine WL.q rfl (r_cmp (r_eql rfl rfl) (beqF (q6))) ?_
    refine WL.q rfl (r_assign rfl) ?_
    refine WL.nil ?_
    refine WC.condF rfl ?_
    refine WC.seq<|WC.region ?_
    refine WL.q rfl (r_cmp (r_eql rfl rfl) (beqF (q7))) ?_
    refine WL.q rfl (r_assign rfl) ?_
    refine WL.nil ?_
    refine WC.condF rfl ?_
    refine WC.seq<|WC.region ?_
    refine WL.q rfl (r_cmp (r_eql rfl rfl) (beqF (q8))) ?_
    refine WL.q rfl (r_assign rfl) ?_
    refine WL.nil ?_
    refine WC.condF rfl ?_
    refine WC.seq<|WC.region ?_
    refine WL.q rfl (r_cmp (r_eql rfl rfl) (beqF (q9))) ?_
    refine WL.q rfl (r_assign rfl) ?_
    refine WL.nil ?_
    refine WC.condF rfl ?_
    refine WC.seq<|WC.region ?_
    refine WL.q rfl (r_cmp (r_eql rfl rfl) (beqF (q10))) ?_
    refine WL.q rfl (r_assign rfl) ?_
    refine WL.nil ?_
    refine WC.condF rfl ?_
    refine WC.seq<|WC.region ?_
    refine WL.q rfl (r_cmp (r_eql rfl rfl) (beqF (q11))) ?_
    refine WL.q rfl (r_assign rfl) ?_
    refine WL.nil ?_
    refine WC.condF rfl ?_
    refine WC.seq<|WC.region ?_
    refine WL.q rfl (r_cmp (r_eql rfl rfl) (beqF (q12))) ?_
    refine WL.q rfl (r_assign rfl) ?_
    refine WL.nil ?_
    refine WC.condF rfl ?_
    refine WC.seq<|WC.region ?_
    refine WL.q rfl (r_cmp (r_eql rfl rfl) (beqF (q13))) ?_
    refine WL.q rfl (r_assign rfl) ?_
    refine WL.nil ?_
    refine WC.condF rfl ?_
    refine WC.seq<|WC.region ?_
    refine WL.q rfl (r_cmp (r_eql rfl rfl) (beqF (q14))) ?_
    refine WL.q rfl (r_assign rfl) ?_
    refine WL.nil ?_
    refine WC.condF rfl ?_
    refine WC.seq<|WC.region ?_
    refine WL.q rfl (r_cmp (r_eql rfl rfl) (beqF (q15))) ?_
    refine WL.q rfl (r_assign rfl) ?_
    refine WL.nil ?_
    refine WC.condF rfl ?_
    refine WC.seq<|WC.region ?_
    refine WL.q rfl (r_cmp (r_eql rfl rfl) (beqF (q16))) ?_
    refine WL.q rfl (r_assign rfl) ?_
    refine WL.nil ?_
    refine WC.condF rfl ?_
    refine WC.seq<|WC.region ?_
    refine WL.q rfl (r_cmp (r_eql rfl rfl) (beqF (q17))) ?_
    refine WL.q rfl (r_assign rfl) ?_
    refine WL.nil ?_
    refine WC.condF rfl ?_
    refine WC.seq<|WC.region ?_
    refine WL.q rfl (r_cmp (r_eql rfl rfl) (beqF (q18))) ?_
    refine WL.q rfl (r_assign rfl) ?_
    refine WL.nil ?_
    refine WC.condF rfl ?_
    refine WC.seq<|WC.region ?_
    refine WL.q rfl (r_cmp (r_eql rfl rfl) (beqT (q19))) ?_
    refine WL.q rfl (r_assign rfl) ?_
    refine WL.nil ?_
    refine WC.condT rfl ?_
    refine WC.seq<|WC.region ?_
    refine WL.q rfl (r_bld (cs:=[_,_,_,_]) bld_96 rfl rfl) ?_
    refine WL.l0 (l_storeW sz_96 rfl rfl (by first|rfl|assumption|(simp[*];done)|simp[Value.oneCell', *]) (by first|rfl|simp[*]) hb1 (by first|rfl|simp[*])) fun _ w2 hh=>?_
    obtain⟨hb1,e2,hz2⟩:=hh
    refine WL.nil ?_
    refine WC.ret ?_
    replace he:=he.then (e1.then e2)
    exact finC rfl hb1 agg_96 ⟨⟨_,_,by rw[qt]⟩,he.weaken fun b hb _=>hb⟩
  rcases Decidable.em (z=213)with q20|q20
  · have qt:tyI z=12:=(by unfold tyI;repeat (first|rw[if_pos (by omega)]|rw[if_neg (by omega)]))
    refine doesR Tryz.func57 rfl rfl rfl ?_
    have he:Evo (fun b=>b<w.heap.size) w w:=Evo.refl w
    refine WC.seq<|WC.region ?_
    have hs1:=he.size
    refine WL.l rfl (l_alloc zt_96 rfl) fun _ w1 hh=>?_
    obtain⟨rfl,hb1,e1⟩:=hh
    refine WL.nil ?_
    refine WC.seq<|WC.seq<|WC.region ?_
    refine WL.q rfl (r_move rfl) ?_
    refine WL.nil ?_
    refine WC.block ?_
    refine WC.seq<|WC.region ?_
    refine WL.q rfl (r_cmp (r_eql rfl rfl) (beqF (q0))) ?_
    refine WL.q rfl (r_assign rfl) ?_
    refine WL.nil ?_
    refine WC.condF rfl ?_
    refine WC.seq<|WC.region ?_
    refine WL.q rfl (r_cmp (r_eql rfl rfl) (beqF (q1))) ?_
    refine WL.q rfl (r_assign rfl) ?_
    refine WL.nil ?_
    refine WC.condF rfl ?_
    refine WC.seq<|WC.region ?_
    refine WL.q rfl (r_cmp (r_eql rfl rfl) (beqF (q2))) ?_
    refine WL.q rfl (r_assign rfl) ?_
    refine WL.nil ?_
    refine WC.condF rfl ?_
    refine WC.seq<|WC.region ?_
    refine WL.q rfl (r_cmp (r_eql rfl rfl) (beqF (q3))) ?_
    refine WL.q rfl (r_assign rfl) ?_
    refine WL.nil ?_
    refine WC.condF rfl ?_
    refine WC.seq<|WC.region ?_
    refine WL.q rfl (r_cmp (r_eql rfl rfl) (beqF (q4))) ?_
    refine WL.q rfl (r_assign rfl) ?_
    refine WL.nil ?_
    refine WC.condF rfl ?_
    refine WC.seq<|WC.region ?_
    refine WL.q rfl (r_cmp (r_eql rfl rfl) (beqF (q5))) ?_
    refine WL.q rfl (r_assign rfl) ?_
    refine WL.nil ?_
    refine WC.condF rfl ?_
    refine WC.seq<|WC.region ?_
    refine WL.q rfl (r_cmp (r_eql rfl rfl) (beqF (q6))) ?_
    refine WL.q rfl (r_assign rfl) ?_
    refine WL.nil ?_
    refine WC.condF rfl ?_
    refine WC.seq<|WC.region ?_
    refine WL.q rfl (r_cmp (r_eql rfl rfl) (beqF (q7))) ?_
    refine WL.q rfl (r_assign rfl) ?_
    refine WL.nil ?_
    refine WC.condF rfl ?_
    refine WC.seq<|WC.region ?_
    refine WL.q rfl (r_cmp (r_eql rfl rfl) (beqF (q8))) ?_
    refine WL.q rfl (r_assign rfl) ?_
    refine WL.nil ?_
    refine WC.condF rfl ?_
    refine WC.seq<|WC.region ?_
    refine WL.q rfl (r_cmp (r_eql rfl rfl) (beqF (q9))) ?_
    refine WL.q rfl (r_assign rfl) ?_
    refine WL.nil ?_
    refine WC.condF rfl ?_
    refine WC.seq<|WC.region ?_
    refine WL.q rfl (r_cmp (r_eql rfl rfl) (beqF (q10))) ?_
    refine WL.q rfl (r_assign rfl) ?_
    refine WL.nil ?_
    refine WC.condF rfl ?_
    refine WC.seq<|WC.region ?_
    refine WL.q rfl (r_cmp (r_eql rfl rfl) (beqF (q11))) ?_
    refine WL.q rfl (r_assign rfl) ?_
    refine WL.nil ?_
    refine WC.condF rfl ?_
    refine WC.seq<|WC.region ?_
    refine WL.q rfl (r_cmp (r_eql rfl rfl) (beqF (q12))) ?_
    refine WL.q rfl (r_assign rfl) ?_
    refine WL.nil ?_
    refine WC.condF rfl ?_
    refine WC.seq<|WC.region ?_
    refine WL.q rfl (r_cmp (r_eql rfl rfl) (beqF (q13))) ?_
    refine WL.q rfl (r_assign rfl) ?_
    refine WL.nil ?_
    refine WC.condF rfl ?_
    refine WC.seq<|WC.region ?_
    refine WL.q rfl (r_cmp (r_eql rfl rfl) (beqF (q14))) ?_
    refine WL.q rfl (r_assign rfl) ?_
    refine WL.nil ?_
    refine WC.condF rfl ?_
    refine WC.seq<|WC.region ?_
    refine WL.q rfl (r_cmp (r_eql rfl rfl) (beqF (q15))) ?_
    refine WL.q rfl (r_assign rfl) ?_
    refine WL.nil ?_
    refine WC.condF rfl ?_
    refine WC.seq<|WC.region ?_
    refine WL.q rfl (r_cmp (r_eql rfl rfl) (beqF (q16))) ?_
    refine WL.q rfl (r_assign rfl) ?_
    refine WL.nil ?_
    refine WC.condF rfl ?_
    refine WC.seq<|WC.region ?_
    refine WL.q rfl (r_cmp (r_eql rfl rfl) (beqF (q17))) ?_
    refine WL.q rfl (r_assign rfl) ?_
    refine WL.nil ?_
    refine WC.condF rfl ?_
    refine WC.seq<|WC.region ?_
    refine WL.q rfl (r_cmp (r_eql rfl rfl) (beqF (q18))) ?_
    refine WL.q rfl (r_assign rfl) ?_
    refine WL.nil ?_
    refine WC.condF rfl ?_
    refine WC.seq<|WC.region ?_
    refine WL.q rfl (r_cmp (r_eql rfl rfl) (beqF (q19))) ?_
    refine WL.q rfl (r_assign rfl) ?_
    refine WL.nil ?_
    refine WC.condF rfl ?_
    refine WC.seq<|WC.region ?_
    refine WL.q rfl (r_cmp (r_eql rfl rfl) (beqT (q20))) ?_
    refine WL.q rfl (r_assign rfl) ?_
    refine WL.nil ?_
    refine WC.condT rfl ?_
    refine WC.seq<|WC.region ?_
    refine WL.q rfl (r_bld (cs:=[_,_,_,_]) bld_96 rfl rfl) ?_
    refine WL.l0 (l_storeW sz_96 rfl rfl (by first|rfl|assumption|(simp[*];done)|simp[Value.oneCell', *]) (by first|rfl|simp[*]) hb1 (by first|rfl|simp[*])) fun _ w2 hh=>?_
    obtain⟨hb1,e2,hz2⟩:=hh
    refine WL.nil ?_
    refine WC.ret ?_
    replace he:=he.then (e1.then e2)
    exact finC rfl hb1 agg_96 ⟨⟨_,_,by rw[qt]⟩,he.weaken fun b hb _=>hb⟩
  rcases Decidable.em (z=214)with q21|q21
  · have qt:tyI z=12:=(by unfold tyI;repeat (first|rw[if_pos (by omega)]|rw[if_neg (by omega)]))
    refine doesR Tryz.func57 rfl rfl rfl ?_
    have he:Evo (fun b=>b<w.heap.size) w w:=Evo.refl w
    refine WC.seq<|WC.region ?_
    have hs1:=he.size
    refine WL.l rfl (l_alloc zt_96 rfl) fun _ w1 hh=>?_
    obtain⟨rfl,hb1,e1⟩:=hh
    refine WL.nil ?_
    refine WC.seq<|WC.seq<|WC.region ?_
    refine WL.q rfl (r_move rfl) ?_
    refine WL.nil ?_
    refine WC.block ?_
    refine WC.seq<|WC.region ?_
    refine WL.q rfl (r_cmp (r_eql rfl rfl) (beqF (q0))) ?_
    refine WL.q rfl (r_assign rfl) ?_
    refine WL.nil ?_
    refine WC.condF rfl ?_
    refine WC.seq<|WC.region ?_
    refine WL.q rfl (r_cmp (r_eql rfl rfl) (beqF (q1))) ?_
    refine WL.q rfl (r_assign rfl) ?_
    refine WL.nil ?_
    refine WC.condF rfl ?_
    refine WC.seq<|WC.region ?_
    refine WL.q rfl (r_cmp (r_eql rfl rfl) (beqF (q2))) ?_
    refine WL.q rfl (r_assign rfl) ?_
    refine WL.nil ?_
    refine WC.condF rfl ?_
    refine WC.seq<|WC.region ?_
    refine WL.q rfl (r_cmp (r_eql rfl rfl) (beqF (q3))) ?_
    refine WL.q rfl (r_assign rfl) ?_
    refine WL.nil ?_
    refine WC.condF rfl ?_
    refine WC.seq<|WC.region ?_
    refine WL.q rfl (r_cmp (r_eql rfl rfl) (beqF (q4))) ?_
    refine WL.q rfl (r_assign rfl) ?_
    refine WL.nil ?_
    refine WC.condF rfl ?_
    refine WC.seq<|WC.region ?_
    refine WL.q rfl (r_cmp (r_eql rfl rfl) (beqF (q5))) ?_
    refine WL.q rfl (r_assign rfl) ?_
    refine WL.nil ?_
    refine WC.condF rfl ?_
    refine WC.seq<|WC.region ?_
    refine WL.q rfl (r_cmp (r_eql rfl rfl) (beqF (q6))) ?_
    refine WL.q rfl (r_assign rfl) ?_
    refine WL.nil ?_
    refine WC.condF rfl ?_
    refine WC.seq<|WC.region ?_
    refine WL.q rfl (r_cmp (r_eql rfl rfl) (beqF (q7))) ?_
    refine WL.q rfl (r_assign rfl) ?_
    refine WL.nil ?_
    refine WC.condF rfl ?_
    refine WC.seq<|WC.region ?_
    refine WL.q rfl (r_cmp (r_eql rfl rfl) (beqF (q8))) ?_
    refine WL.q rfl (r_assign rfl) ?_
    refine WL.nil ?_
    refine WC.condF rfl ?_
    refine WC.seq<|WC.region ?_
    refine WL.q rfl (r_cmp (r_eql rfl rfl) (beqF (q9))) ?_
    refine WL.q rfl (r_assign rfl) ?_
    refine WL.nil ?_
    refine WC.condF rfl ?_
    refine WC.seq<|WC.region ?_
    refine WL.q rfl (r_cmp (r_eql rfl rfl) (beqF (q10))) ?_
    refine WL.q rfl (r_assign rfl) ?_
    refine WL.nil ?_
    refine WC.condF rfl ?_
    refine WC.seq<|WC.region ?_
    refine WL.q rfl (r_cmp (r_eql rfl rfl) (beqF (q11))) ?_
    refine WL.q rfl (r_assign rfl) ?_
    refine WL.nil ?_
    refine WC.condF rfl ?_
    refine WC.seq<|WC.region ?_
    refine WL.q rfl (r_cmp (r_eql rfl rfl) (beqF (q12))) ?_
    refine WL.q rfl (r_assign rfl) ?_
    refine WL.nil ?_
    refine WC.condF rfl ?_
    refine WC.seq<|WC.region ?_
    refine WL.q rfl (r_cmp (r_eql rfl rfl) (beqF (q13))) ?_
    refine WL.q rfl (r_assign rfl) ?_
    refine WL.nil ?_
    refine WC.condF rfl ?_
    refine WC.seq<|WC.region ?_
    refine WL.q rfl (r_cmp (r_eql rfl rfl) (beqF (q14))) ?_
    refine WL.q rfl (r_assign rfl) ?_
    refine WL.nil ?_
    refine WC.condF rfl ?_
    refine WC.seq<|WC.region ?_
    refine WL.q rfl (r_cmp (r_eql rfl rfl) (beqF (q15))) ?_
    refine WL.q rfl (r_assign rfl) ?_
    refine WL.nil ?_
    refine WC.condF rfl ?_
    refine WC.seq<|WC.region ?_
    refine WL.q rfl (r_cmp (r_eql rfl rfl) (beqF (q16))) ?_
    refine WL.q rfl (r_assign rfl) ?_
    refine WL.nil ?_
    refine WC.condF rfl ?_
    refine WC.seq<|WC.region ?_
    refine WL.q rfl (r_cmp (r_eql rfl rfl) (beqF (q17))) ?_
    refine WL.q rfl (r_assign rfl) ?_
    refine WL.nil ?_
    refine WC.condF rfl ?_
    refine WC.seq<|WC.region ?_
    refine WL.q rfl (r_cmp (r_eql rfl rfl) (beqF (q18))) ?_
    refine WL.q rfl (r_assign rfl) ?_
    refine WL.nil ?_
    refine WC.condF rfl ?_
    refine WC.seq<|WC.region ?_
    refine WL.q rfl (r_cmp (r_eql rfl rfl) (beqF (q19))) ?_
    refine WL.q rfl (r_assign rfl) ?_
    refine WL.nil ?_
    refine WC.condF rfl ?_
    refine WC.seq<|WC.region ?_
    refine WL.q rfl (r_cmp (r_eql rfl rfl) (beqF (q20))) ?_
    refine WL.q rfl (r_assign rfl) ?_
    refine WL.nil ?_
    refine WC.condF rfl ?_
    refine WC.seq<|WC.region ?_
    refine WL.q rfl (r_cmp (r_eql rfl rfl) (beqT (q21))) ?_
    refine WL.q rfl (r_assign rfl) ?_
    refine WL.nil ?_
    refine WC.condT rfl ?_
    refine WC.seq<|WC.region ?_
    refine WL.q rfl (r_bld (cs:=[_,_,_,_]) bld_96 rfl rfl) ?_
    refine WL.l0 (l_storeW sz_96 rfl rfl (by first|rfl|assumption|(simp[*];done)|simp[Value.oneCell', *]) (by first|rfl|simp[*]) hb1 (by first|rfl|simp[*])) fun _ w2 hh=>?_
    obtain⟨hb1,e2,hz2⟩:=hh
    refine WL.nil ?_
    refine WC.ret ?_
    replace he:=he.then (e1.then e2)
    exact finC rfl hb1 agg_96 ⟨⟨_,_,by rw[qt]⟩,he.weaken fun b hb _=>hb⟩
  rcases Decidable.em (z=215)with q22|q22
  · have qt:tyI z=12:=(by unfold tyI;repeat (first|rw[if_pos (by omega)]|rw[if_neg (by omega)]))
    refine doesR Tryz.func57 rfl rfl rfl ?_
    have he:Evo (fun b=>b<w.heap.size) w w:=Evo.refl w
    refine WC.seq<|WC.region ?_
    have hs1:=he.size
    refine WL.l rfl (l_alloc zt_96 rfl) fun _ w1 hh=>?_
    obtain⟨rfl,hb1,e1⟩:=hh
    refine WL.nil ?_
    refine WC.seq<|WC.seq<|WC.region ?_
    refine WL.q rfl (r_move rfl) ?_
    refine WL.nil ?_
    refine WC.block ?_
    refine WC.seq<|WC.region ?_
    refine WL.q rfl (r_cmp (r_eql rfl rfl) (beqF (q0))) ?_
    refine WL.q rfl (r_assign rfl) ?_
    refine WL.nil ?_
    refine WC.condF rfl ?_
    refine WC.seq<|WC.region ?_
    refine WL.q rfl (r_cmp (r_eql rfl rfl) (beqF (q1))) ?_
    refine WL.q rfl (r_assign rfl) ?_
    refine WL.nil ?_
    refine WC.condF rfl ?_
    refine WC.seq<|WC.region ?_
    refine WL.q rfl (r_cmp (r_eql rfl rfl) (beqF (q2))) ?_
    refine WL.q rfl (r_assign rfl) ?_
    refine WL.nil ?_
    refine WC.condF rfl ?_
    refine WC.seq<|WC.region ?_
    refine WL.q rfl (r_cmp (r_eql rfl rfl) (beqF (q3))) ?_
    refine WL.q rfl (r_assign rfl) ?_
    refine WL.nil ?_
    refine WC.condF rfl ?_
    refine WC.seq<|WC.region ?_
    refine WL.q rfl (r_cmp (r_eql rfl rfl) (beqF (q4))) ?_
    refine WL.q rfl (r_assign rfl) ?_
    refine WL.nil ?_
    refine WC.condF rfl ?_
    refine WC.seq<|WC.region ?_
    refine WL.q rfl (r_cmp (r_eql rfl rfl) (beqF (q5))) ?_
    refine WL.q rfl (r_assign rfl) ?_
    refine WL.nil ?_
    refine WC.condF rfl ?_
    refine WC.seq<|WC.region ?_
    refine WL.q rfl (r_cmp (r_eql rfl rfl) (beqF (q6))) ?_
    refine WL.q rfl (r_assign rfl) ?_
    refine WL.nil ?_
    refine WC.condF rfl ?_
    refine WC.seq<|WC.region ?_
    refine WL.q rfl (r_cmp (r_eql rfl rfl) (beqF (q7))) ?_
    refine WL.q rfl (r_assign rfl) ?_
    refine WL.nil ?_
    refine WC.condF rfl ?_
    refine WC.seq<|WC.region ?_
    refine WL.q rfl (r_cmp (r_eql rfl rfl) (beqF (q8))) ?_
    refine WL.q rfl (r_assign rfl) ?_
    refine WL.nil ?_
    refine WC.condF rfl ?_
    refine WC.seq<|WC.region ?_
    refine WL.q rfl (r_cmp (r_eql rfl rfl) (beqF (q9))) ?_
    refine WL.q rfl (r_assign rfl) ?_
    refine WL.nil ?_
    refine WC.condF rfl ?_
    refine WC.seq<|WC.region ?_
    refine WL.q rfl (r_cmp (r_eql rfl rfl) (beqF (q10))) ?_
    refine WL.q rfl (r_assign rfl) ?_
    refine WL.nil ?_
    refine WC.condF rfl ?_
    refine WC.seq<|WC.region ?_
    refine WL.q rfl (r_cmp (r_eql rfl rfl) (beqF (q11))) ?_
    refine WL.q rfl (r_assign rfl) ?_
    refine WL.nil ?_
    refine WC.condF rfl ?_
    refine WC.seq<|WC.region ?_
    refine WL.q rfl (r_cmp (r_eql rfl rfl) (beqF (q12))) ?_
    refine WL.q rfl (r_assign rfl) ?_
    refine WL.nil ?_
    refine WC.condF rfl ?_
    refine WC.seq<|WC.region ?_
    refine WL.q rfl (r_cmp (r_eql rfl rfl) (beqF (q13))) ?_
    refine WL.q rfl (r_assign rfl) ?_
    refine WL.nil ?_
    refine WC.condF rfl ?_
    refine WC.seq<|WC.region ?_
    refine WL.q rfl (r_cmp (r_eql rfl rfl) (beqF (q14))) ?_
    refine WL.q rfl (r_assign rfl) ?_
    refine WL.nil ?_
    refine WC.condF rfl ?_
    refine WC.seq<|WC.region ?_
    refine WL.q rfl (r_cmp (r_eql rfl rfl) (beqF (q15))) ?_
    refine WL.q rfl (r_assign rfl) ?_
    refine WL.nil ?_
    refine WC.condF rfl ?_
    refine WC.seq<|WC.region ?_
    refine WL.q rfl (r_cmp (r_eql rfl rfl) (beqF (q16))) ?_
    refine WL.q rfl (r_assign rfl) ?_
    refine WL.nil ?_
    refine WC.condF rfl ?_
    refine WC.seq<|WC.region ?_
    refine WL.q rfl (r_cmp (r_eql rfl rfl) (beqF (q17))) ?_
    refine WL.q rfl (r_assign rfl) ?_
    refine WL.nil ?_
    refine WC.condF rfl ?_
    refine WC.seq<|WC.region ?_
    refine WL.q rfl (r_cmp (r_eql rfl rfl) (beqF (q18))) ?_
    refine WL.q rfl (r_assign rfl) ?_
    refine WL.nil ?_
    refine WC.condF rfl ?_
    refine WC.seq<|WC.region ?_
    refine WL.q rfl (r_cmp (r_eql rfl rfl) (beqF (q19))) ?_
    refine WL.q rfl (r_assign rfl) ?_
    refine WL.nil ?_
    refine WC.condF rfl ?_
    refine WC.seq<|WC.region ?_
    refine WL.q rfl (r_cmp (r_eql rfl rfl) (beqF (q20))) ?_
    refine WL.q rfl (r_assign rfl) ?_
    refine WL.nil ?_
    refine WC.condF rfl ?_
    refine WC.seq<|WC.region ?_
    refine WL.q rfl (r_cmp (r_eql rfl rfl) (beqF (q21))) ?_
    refine WL.q rfl (r_assign rfl) ?_
    refine WL.nil ?_
    refine WC.condF rfl ?_
    refine WC.seq<|WC.region ?_
    refine WL.q rfl (r_cmp (r_eql rfl rfl) (beqT (q22))) ?_
    refine WL.q rfl (r_assign rfl) ?_
    refine WL.nil ?_
    refine WC.condT rfl ?_
    refine WC.seq<|WC.region ?_
    refine WL.q rfl (r_bld (cs:=[_,_,_,_]) bld_96 rfl rfl) ?_
    refine WL.l0 (l_storeW sz_96 rfl rfl (by first|rfl|assumption|(simp[*];done)|simp[Value.oneCell', *]) (by first|rfl|simp[*]) hb1 (by first|rfl|simp[*])) fun _ w2 hh=>?_
    obtain⟨hb1,e2,hz2⟩:=hh
    refine WL.nil ?_
    refine WC.ret ?_
    replace he:=he.then (e1.then e2)
    exact finC rfl hb1 agg_96 ⟨⟨_,_,by rw[qt]⟩,he.weaken fun b hb _=>hb⟩
  rcases Decidable.em (z=216)with q23|q23
  · have qt:tyI z=12:=(by unfold tyI;repeat (first|rw[if_pos (by omega)]|rw[if_neg (by omega)]))
    refine doesR Tryz.func57 rfl rfl rfl ?_
    have he:Evo (fun b=>b<w.heap.size) w w:=Evo.refl w
    refine WC.seq<|WC.region ?_
    have hs1:=he.size
    refine WL.l rfl (l_alloc zt_96 rfl) fun _ w1 hh=>?_
    obtain⟨rfl,hb1,e1⟩:=hh
    refine WL.nil ?_
    refine WC.seq<|WC.seq<|WC.region ?_
    refine WL.q rfl (r_move rfl) ?_
    refine WL.nil ?_
    refine WC.block ?_
    refine WC.seq<|WC.region ?_
    refine WL.q rfl (r_cmp (r_eql rfl rfl) (beqF (q0))) ?_
    refine WL.q rfl (r_assign rfl) ?_
    refine WL.nil ?_
    refine WC.condF rfl ?_
    refine WC.seq<|WC.region ?_
    refine WL.q rfl (r_cmp (r_eql rfl rfl) (beqF (q1))) ?_
    refine WL.q rfl (r_assign rfl) ?_
    refine WL.nil ?_
    refine WC.condF rfl ?_
    refine WC.seq<|WC.region ?_
    refine WL.q rfl (r_cmp (r_eql rfl rfl) (beqF (q2))) ?_
    refine WL.q rfl (r_assign rfl) ?_
    refine WL.nil ?_
    refine WC.condF rfl ?_
    refine WC.seq<|WC.region ?_
    refine WL.q rfl (r_cmp (r_eql rfl rfl) (beqF (q3))) ?_
    refine WL.q rfl (r_assign rfl) ?_
    refine WL.nil ?_
    refine WC.condF rfl ?_
    refine WC.seq<|WC.region ?_
    refine WL.q rfl (r_cmp (r_eql rfl rfl) (beqF (q4))) ?_
    refine WL.q rfl (r_assign rfl) ?_
    refine WL.nil ?_
    refine WC.condF rfl ?_
    refine WC.seq<|WC.region ?_
    refine WL.q rfl (r_cmp (r_eql rfl rfl) (beqF (q5))) ?_
    refine WL.q rfl (r_assign rfl) ?_
    refine WL.nil ?_
    refine WC.condF rfl ?_
    refine WC.seq<|WC.region ?_
    refine WL.q rfl (r_cmp (r_eql rfl rfl) (beqF (q6))) ?_
    refine WL.q rfl (r_assign rfl) ?_
    refine WL.nil ?_
    refine WC.condF rfl ?_
    refine WC.seq<|WC.region ?_
    refine WL.q rfl (r_cmp (r_eql rfl rfl) (beqF (q7))) ?_
    refine WL.q rfl (r_assign rfl) ?_
    refine WL.nil ?_
    refine WC.condF rfl ?_
    refine WC.seq<|WC.region ?_
    refine WL.q rfl (r_cmp (r_eql rfl rfl) (beqF (q8))) ?_
    refine WL.q rfl (r_assign rfl) ?_
    refine WL.nil ?_
    refine WC.condF rfl ?_
    refine WC.seq<|WC.region ?_
    refine WL.q rfl (r_cmp (r_eql rfl rfl) (beqF (q9))) ?_
    refine WL.q rfl (r_assign rfl) ?_
    refine WL.nil ?_
    refine WC.condF rfl ?_
    refine WC.seq<|WC.region ?_
    refine WL.q rfl (r_cmp (r_eql rfl rfl) (beqF (q10))) ?_
    refine WL.q rfl (r_assign rfl) ?_
    refine WL.nil ?_
    refine WC.condF rfl ?_
    refine WC.seq<|WC.region ?_
    refine WL.q rfl (r_cmp (r_eql rfl rfl) (beqF (q11))) ?_
    refine WL.q rfl (r_assign rfl) ?_
    refine WL.nil ?_
    refine WC.condF rfl ?_
    refine WC.seq<|WC.region ?_
    refine WL.q rfl (r_cmp (r_eql rfl rfl) (beqF (q12))) ?_
    refine WL.q rfl (r_assign rfl) ?_
    refine WL.nil ?_
    refine WC.condF rfl ?_
    refine WC.seq<|WC.region ?_
    refine WL.q rfl (r_cmp (r_eql rfl rfl) (beqF (q13))) ?_
    refine WL.q rfl (r_assign rfl) ?_
    refine WL.nil ?_
    refine WC.condF rfl ?_
    refine WC.seq<|WC.region ?_
    refine WL.q rfl (r_cmp (r_eql rfl rfl) (beqF (q14))) ?_
    refine WL.q rfl (r_assign rfl) ?_
    refine WL.nil ?_
    refine WC.condF rfl ?_
    refine WC.seq<|WC.region ?_
    refine WL.q rfl (r_cmp (r_eql rfl rfl) (beqF (q15))) ?_
    refine WL.q rfl (r_assign rfl) ?_
    refine WL.nil ?_
    refine WC.condF rfl ?_
    refine WC.seq<|WC.region ?_
    refine WL.q rfl (r_cmp (r_eql rfl rfl) (beqF (q16))) ?_
    refine WL.q rfl (r_assign rfl) ?_
    refine WL.nil ?_
    refine WC.condF rfl ?_
    refine WC.seq<|WC.region ?_
    refine WL.q rfl (r_cmp (r_eql rfl rfl) (beqF (q17))) ?_
    refine WL.q rfl (r_assign rfl) ?_
    refine WL.nil ?_
    refine WC.condF rfl ?_
    refine WC.seq<|WC.region ?_
    refine WL.q rfl (r_cmp (r_eql rfl rfl) (beqF (q18))) ?_
    refine WL.q rfl (r_assign rfl) ?_
    refine WL.nil ?_
    refine WC.condF rfl ?_
    refine WC.seq<|WC.region ?_
    refine WL.q rfl (r_cmp (r_eql rfl rfl) (beqF (q19))) ?_
    refine WL.q rfl (r_assign rfl) ?_
    refine WL.nil ?_
    refine WC.condF rfl ?_
    refine WC.seq<|WC.region ?_
    refine WL.q rfl (r_cmp (r_eql rfl rfl) (beqF (q20))) ?_
    refine WL.q rfl (r_assign rfl) ?_
    refine WL.nil ?_
    refine WC.condF rfl ?_
    refine WC.seq<|WC.region ?_
    refine WL.q rfl (r_cmp (r_eql rfl rfl) (beqF (q21))) ?_
    refine WL.q rfl (r_assign rfl) ?_
    refine WL.nil ?_
    refine WC.condF rfl ?_
    refine WC.seq<|WC.region ?_
    refine WL.q rfl (r_cmp (r_eql rfl rfl) (beqF (q22))) ?_
    refine WL.q rfl (r_assign rfl) ?_
    refine WL.nil ?_
    refine WC.condF rfl ?_
    refine WC.seq<|WC.region ?_
    refine WL.q rfl (r_cmp (r_eql rfl rfl) (beqT (q23))) ?_
    refine WL.q rfl (r_assign rfl) ?_
    refine WL.nil ?_
    refine WC.condT rfl ?_
    refine WC.seq<|WC.region ?_
    refine WL.q rfl (r_bld (cs:=[_,_,_,_]) bld_96 rfl rfl) ?_
    refine WL.l0 (l_storeW sz_96 rfl rfl (by first|rfl|assumption|(simp[*];done)|simp[Value.oneCell', *]) (by first|rfl|simp[*]) hb1 (by first|rfl|simp[*])) fun _ w2 hh=>?_
    obtain⟨hb1,e2,hz2⟩:=hh
    refine WL.nil ?_
    refine WC.ret ?_
    replace he:=he.then (e1.then e2)
    exact finC rfl hb1 agg_96 ⟨⟨_,_,by rw[qt]⟩,he.weaken fun b hb _=>hb⟩
  rcases Decidable.em (z=217)with q24|q24
  · have qt:tyI z=1:=(by unfold tyI;repeat (first|rw[if_pos (by omega)]|rw[if_neg (by omega)]))
    refine doesR Tryz.func57 rfl rfl rfl ?_
    have he:Evo (fun b=>b<w.heap.size) w w:=Evo.refl w
    refine WC.seq<|WC.region ?_
    have hs1:=he.size
    refine WL.l rfl (l_alloc zt_96 rfl) fun _ w1 hh=>?_
    obtain⟨rfl,hb1,e1⟩:=hh
    refine WL.nil ?_
    refine WC.seq<|WC.seq<|WC.region ?_
    refine WL.q rfl (r_move rfl) ?_
    refine WL.nil ?_
    refine WC.block ?_
    refine WC.seq<|WC.region ?_
    refine WL.q rfl (r_cmp (r_eql rfl rfl) (beqF (q0))) ?_
    refine WL.q rfl (r_assign rfl) ?_
    refine WL.nil ?_
    refine WC.condF rfl ?_
    refine WC.seq<|WC.region ?_
    refine WL.q rfl (r_cmp (r_eql rfl rfl) (beqF (q1))) ?_
    refine WL.q rfl (r_assign rfl) ?_
    refine WL.nil ?_
    refine WC.condF rfl ?_
    refine WC.seq<|WC.region ?_
    refine WL.q rfl (r_cmp (r_eql rfl rfl) (beqF (q2))) ?_
    refine WL.q rfl (r_assign rfl) ?_
    refine WL.nil ?_
    refine WC.condF rfl ?_
    refine WC.seq<|WC.region ?_
    refine WL.q rfl (r_cmp (r_eql rfl rfl) (beqF (q3))) ?_
    refine WL.q rfl (r_assign rfl) ?_
    refine WL.nil ?_
    refine WC.condF rfl ?_
    refine WC.seq<|WC.region ?_
    refine WL.q rfl (r_cmp (r_eql rfl rfl) (beqF (q4))) ?_
    refine WL.q rfl (r_assign rfl) ?_
    refine WL.nil ?_
    refine WC.condF rfl ?_
    refine WC.seq<|WC.region ?_
    refine WL.q rfl (r_cmp (r_eql rfl rfl) (beqF (q5))) ?_
    refine WL.q rfl (r_assign rfl) ?_
    refine WL.nil ?_
    refine WC.condF rfl ?_
    refine WC.seq<|WC.region ?_
    refine WL.q rfl (r_cmp (r_eql rfl rfl) (beqF (q6))) ?_
    refine WL.q rfl (r_assign rfl) ?_
    refine WL.nil ?_
    refine WC.condF rfl ?_
    refine WC.seq<|WC.region ?_
    refine WL.q rfl (r_cmp (r_eql rfl rfl) (beqF (q7))) ?_
    refine WL.q rfl (r_assign rfl) ?_
    refine WL.nil ?_
    refine WC.condF rfl ?_
    refine WC.seq<|WC.region ?_
    refine WL.q rfl (r_cmp (r_eql rfl rfl) (beqF (q8))) ?_
    refine WL.q rfl (r_assign rfl) ?_
    refine WL.nil ?_
    refine WC.condF rfl ?_
    refine WC.seq<|WC.region ?_
    refine WL.q rfl (r_cmp (r_eql rfl rfl) (beqF (q9))) ?_
    refine WL.q rfl (r_assign rfl) ?_
    refine WL.nil ?_
    refine WC.condF rfl ?_
    refine WC.seq<|WC.region ?_
    refine WL.q rfl (r_cmp (r_eql rfl rfl) (beqF (q10))) ?_
    refine WL.q rfl (r_assign rfl) ?_
    refine WL.nil ?_
    refine WC.condF rfl ?_
    refine WC.seq<|WC.region ?_
    refine WL.q rfl (r_cmp (r_eql rfl rfl) (beqF (q11))) ?_
    refine WL.q rfl (r_assign rfl) ?_
    refine WL.nil ?_
    refine WC.condF rfl ?_
    refine WC.seq<|WC.region ?_
    refine WL.q rfl (r_cmp (r_eql rfl rfl) (beqF (q12))) ?_
    refine WL.q rfl (r_assign rfl) ?_
    refine WL.nil ?_
    refine WC.condF rfl ?_
    refine WC.seq<|WC.region ?_
    refine WL.q rfl (r_cmp (r_eql rfl rfl) (beqF (q13))) ?_
    refine WL.q rfl (r_assign rfl) ?_
    refine WL.nil ?_
    refine WC.condF rfl ?_
    refine WC.seq<|WC.region ?_
    refine WL.q rfl (r_cmp (r_eql rfl rfl) (beqF (q14))) ?_
    refine WL.q rfl (r_assign rfl) ?_
    refine WL.nil ?_
    refine WC.condF rfl ?_
    refine WC.seq<|WC.region ?_
    refine WL.q rfl (r_cmp (r_eql rfl rfl) (beqF (q15))) ?_
    refine WL.q rfl (r_assign rfl) ?_
    refine WL.nil ?_
    refine WC.condF rfl ?_
    refine WC.seq<|WC.region ?_
    refine WL.q rfl (r_cmp (r_eql rfl rfl) (beqF (q16))) ?_
    refine WL.q rfl (r_assign rfl) ?_
    refine WL.nil ?_
    refine WC.condF rfl ?_
    refine WC.seq<|WC.region ?_
    refine WL.q rfl (r_cmp (r_eql rfl rfl) (beqF (q17))) ?_
    refine WL.q rfl (r_assign rfl) ?_
    refine WL.nil ?_
    refine WC.condF rfl ?_
    refine WC.seq<|WC.region ?_
    refine WL.q rfl (r_cmp (r_eql rfl rfl) (beqF (q18))) ?_
    refine WL.q rfl (r_assign rfl) ?_
    refine WL.nil ?_
    refine WC.condF rfl ?_
    refine WC.seq<|WC.region ?_
    refine WL.q rfl (r_cmp (r_eql rfl rfl) (beqF (q19))) ?_
    refine WL.q rfl (r_assign rfl) ?_
    refine WL.nil ?_
    refine WC.condF rfl ?_
    refine WC.seq<|WC.region ?_
    refine WL.q rfl (r_cmp (r_eql rfl rfl) (beqF (q20))) ?_
    refine WL.q rfl (r_assign rfl) ?_
    refine WL.nil ?_
    refine WC.condF rfl ?_
    refine WC.seq<|WC.region ?_
    refine WL.q rfl (r_cmp (r_eql rfl rfl) (beqF (q21))) ?_
    refine WL.q rfl (r_assign rfl) ?_
    refine WL.nil ?_
    refine WC.condF rfl ?_
    refine WC.seq<|WC.region ?_
    refine WL.q rfl (r_cmp (r_eql rfl rfl) (beqF (q22))) ?_
    refine WL.q rfl (r_assign rfl) ?_
    refine WL.nil ?_
    refine WC.condF rfl ?_
    refine WC.seq<|WC.region ?_
    refine WL.q rfl (r_cmp (r_eql rfl rfl) (beqF (q23))) ?_
    refine WL.q rfl (r_assign rfl) ?_
    refine WL.nil ?_
    refine WC.condF rfl ?_
    refine WC.seq<|WC.region ?_
    refine WL.q rfl (r_cmp (r_eql rfl rfl) (beqT (q24))) ?_
    refine WL.q rfl (r_assign rfl) ?_
    refine WL.nil ?_
    refine WC.condT rfl ?_
    refine WC.seq<|WC.region ?_
    refine WL.q rfl (r_bld (cs:=[_,_,_,_]) bld_96 rfl rfl) ?_
    refine WL.l0 (l_storeW sz_96 rfl rfl (by first|rfl|assumption|(simp[*];done)|simp[Value.oneCell', *]) (by first|rfl|simp[*]) hb1 (by first|rfl|simp[*])) fun _ w2 hh=>?_
    obtain⟨hb1,e2,hz2⟩:=hh
    refine WL.nil ?_
    refine WC.ret ?_
    replace he:=he.then (e1.then e2)
    exact finC rfl hb1 agg_96 ⟨⟨_,_,by rw[qt]⟩,he.weaken fun b hb _=>hb⟩
  rcases Decidable.em (z=218)with q25|q25
  · have qt:tyI z=1:=(by unfold tyI;repeat (first|rw[if_pos (by omega)]|rw[if_neg (by omega)]))
    refine doesR Tryz.func57 rfl rfl rfl ?_
    have he:Evo (fun b=>b<w.heap.size) w w:=Evo.refl w
    refine WC.seq<|WC.region ?_
    have hs1:=he.size
    refine WL.l rfl (l_alloc zt_96 rfl) fun _ w1 hh=>?_
    obtain⟨rfl,hb1,e1⟩:=hh
    refine WL.nil ?_
    refine WC.seq<|WC.seq<|WC.region ?_
    refine WL.q rfl (r_move rfl) ?_
    refine WL.nil ?_
    refine WC.block ?_
    refine WC.seq<|WC.region ?_
    refine WL.q rfl (r_cmp (r_eql rfl rfl) (beqF (q0))) ?_
    refine WL.q rfl (r_assign rfl) ?_
    refine WL.nil ?_
    refine WC.condF rfl ?_
    refine WC.seq<|WC.region ?_
    refine WL.q rfl (r_cmp (r_eql rfl rfl) (beqF (q1))) ?_
    refine WL.q rfl (r_assign rfl) ?_
    refine WL.nil ?_
    refine WC.condF rfl ?_
    refine WC.seq<|WC.region ?_
    refine WL.q rfl (r_cmp (r_eql rfl rfl) (beqF (q2))) ?_
    refine WL.q rfl (r_assign rfl) ?_
    refine WL.nil ?_
    refine WC.condF rfl ?_
    refine WC.seq<|WC.region ?_
    refine WL.q rfl (r_cmp (r_eql rfl rfl) (beqF (q3))) ?_
    refine WL.q rfl (r_assign rfl) ?_
    refine WL.nil ?_
    refine WC.condF rfl ?_
    refine WC.seq<|WC.region ?_
    refine WL.q rfl (r_cmp (r_eql rfl rfl) (beqF (q4))) ?_
    refine WL.q rfl (r_assign rfl) ?_
    refine WL.nil ?_
    refine WC.condF rfl ?_
    refine WC.seq<|WC.region ?_
    refine WL.q rfl (r_cmp (r_eql rfl rfl) (beqF (q5))) ?_
    refine WL.q rfl (r_assign rfl) ?_
    refine WL.nil ?_
    refine WC.condF rfl ?_
    refine WC.seq<|WC.region ?_
    refine WL.q rfl (r_cmp (r_eql rfl rfl) (beqF (q6))) ?_
    refine WL.q rfl (r_assign rfl) ?_
    refine WL.nil ?_
    refine WC.condF rfl ?_
    refine WC.seq<|WC.region ?_
    refine WL.q rfl (r_cmp (r_eql rfl rfl) (beqF (q7))) ?_
    refine WL.q rfl (r_assign rfl) ?_
    refine WL.nil ?_
    refine WC.condF rfl ?_
    refine WC.seq<|WC.region ?_
    refine WL.q rfl (r_cmp (r_eql rfl rfl) (beqF (q8))) ?_
    refine WL.q rfl (r_assign rfl) ?_
    refine WL.nil ?_
    refine WC.condF rfl ?_
    refine WC.seq<|WC.region ?_
    refine WL.q rfl (r_cmp (r_eql rfl rfl) (beqF (q9))) ?_
    refine WL.q rfl (r_assign rfl) ?_
    refine WL.nil ?_
    refine WC.condF rfl ?_
    refine WC.seq<|WC.region ?_
    refine WL.q rfl (r_cmp (r_eql rfl rfl) (beqF (q10))) ?_
    refine WL.q rfl (r_assign rfl) ?_
    refine WL.nil ?_
    refine WC.condF rfl ?_
    refine WC.seq<|WC.region ?_
    refine WL.q rfl (r_cmp (r_eql rfl rfl) (beqF (q11))) ?_
    refine WL.q rfl (r_assign rfl) ?_
    refine WL.nil ?_
    refine WC.condF rfl ?_
    refine WC.seq<|WC.region ?_
    refine WL.q rfl (r_cmp (r_eql rfl rfl) (beqF (q12))) ?_
    refine WL.q rfl (r_assign rfl) ?_
    refine WL.nil ?_
    refine WC.condF rfl ?_
    refine WC.seq<|WC.region ?_
    refine WL.q rfl (r_cmp (r_eql rfl rfl) (beqF (q13))) ?_
    refine WL.q rfl (r_assign rfl) ?_
    refine WL.nil ?_
    refine WC.condF rfl ?_
    refine WC.seq<|WC.region ?_
    refine WL.q rfl (r_cmp (r_eql rfl rfl) (beqF (q14))) ?_
    refine WL.q rfl (r_assign rfl) ?_
    refine WL.nil ?_
    refine WC.condF rfl ?_
    refine WC.seq<|WC.region ?_
    refine WL.q rfl (r_cmp (r_eql rfl rfl) (beqF (q15))) ?_
    refine WL.q rfl (r_assign rfl) ?_
    refine WL.nil ?_
    refine WC.condF rfl ?_
    refine WC.seq<|WC.region ?_
    refine WL.q rfl (r_cmp (r_eql rfl rfl) (beqF (q16))) ?_
    refine WL.q rfl (r_assign rfl) ?_
    refine WL.nil ?_
    refine WC.condF rfl ?_
    refine WC.seq<|WC.region ?_
    refine WL.q rfl (r_cmp (r_eql rfl rfl) (beqF (q17))) ?_
    refine WL.q rfl (r_assign rfl) ?_
    refine WL.nil ?_
    refine WC.condF rfl ?_
    refine WC.seq<|WC.region ?_
    refine WL.q rfl (r_cmp (r_eql rfl rfl) (beqF (q18))) ?_
    refine WL.q rfl (r_assign rfl) ?_
    refine WL.nil ?_
    refine WC.condF rfl ?_
    refine WC.seq<|WC.region ?_
    refine WL.q rfl (r_cmp (r_eql rfl rfl) (beqF (q19))) ?_
    refine WL.q rfl (r_assign rfl) ?_
    refine WL.nil ?_
    refine WC.condF rfl ?_
    refine WC.seq<|WC.region ?_
    refine WL.q rfl (r_cmp (r_eql rfl rfl) (beqF (q20))) ?_
    refine WL.q rfl (r_assign rfl) ?_
    refine WL.nil ?_
    refine WC.condF rfl ?_
    refine WC.seq<|WC.region ?_
    refine WL.q rfl (r_cmp (r_eql rfl rfl) (beqF (q21))) ?_
    refine WL.q rfl (r_assign rfl) ?_
    refine WL.nil ?_
    refine WC.condF rfl ?_
    refine WC.seq<|WC.region ?_
    refine WL.q rfl (r_cmp (r_eql rfl rfl) (beqF (q22))) ?_
    refine WL.q rfl (r_assign rfl) ?_
    refine WL.nil ?_
    refine WC.condF rfl ?_
    refine WC.seq<|WC.region ?_
    refine WL.q rfl (r_cmp (r_eql rfl rfl) (beqF (q23))) ?_
    refine WL.q rfl (r_assign rfl) ?_
    refine WL.nil ?_
    refine WC.condF rfl ?_
    refine WC.seq<|WC.region ?_
    refine WL.q rfl (r_cmp (r_eql rfl rfl) (beqF (q24))) ?_
    refine WL.q rfl (r_assign rfl) ?_
    refine WL.nil ?_
    refine WC.condF rfl ?_
    refine WC.seq<|WC.region ?_
    refine WL.q rfl (r_cmp (r_eql rfl rfl) (beqT (q25))) ?_
    refine WL.q rfl (r_assign rfl) ?_
    refine WL.nil ?_
    refine WC.condT rfl ?_
    refine WC.seq<|WC.region ?_
    refine WL.q rfl (r_bld (cs:=[_,_,_,_]) bld_96 rfl rfl) ?_
    refine WL.l0 (l_storeW sz_96 rfl rfl (by first|rfl|assumption|(simp[*];done)|simp[Value.oneCell', *]) (by first|rfl|simp[*]) hb1 (by first|rfl|simp[*])) fun _ w2 hh=>?_
    obtain⟨hb1,e2,hz2⟩:=hh
    refine WL.nil ?_
    refine WC.ret ?_
    replace he:=he.then (e1.then e2)
    exact finC rfl hb1 agg_96 ⟨⟨_,_,by rw[qt]⟩,he.weaken fun b hb _=>hb⟩
  rcases Decidable.em (z=219)with q26|q26
  · have qt:tyI z=1:=(by unfold tyI;repeat (first|rw[if_pos (by omega)]|rw[if_neg (by omega)]))
    refine doesR Tryz.func57 rfl rfl rfl ?_
    have he:Evo (fun b=>b<w.heap.size) w w:=Evo.refl w
    refine WC.seq<|WC.region ?_
    have hs1:=he.size
    refine WL.l rfl (l_alloc zt_96 rfl) fun _ w1 hh=>?_
    obtain⟨rfl,hb1,e1⟩:=hh
    refine WL.nil ?_
    refine WC.seq<|WC.seq<|WC.region ?_
    refine WL.q rfl (r_move rfl) ?_
    refine WL.nil ?_
    refine WC.block ?_
    refine WC.seq<|WC.region ?_
    refine WL.q rfl (r_cmp (r_eql rfl rfl) (beqF (q0))) ?_
    refine WL.q rfl (r_assign rfl) ?_
    refine WL.nil ?_
    refine WC.condF rfl ?_
    refine WC.seq<|WC.region ?_
    refine WL.q rfl (r_cmp (r_eql rfl rfl) (beqF (q1))) ?_
    refine WL.q rfl (r_assign rfl) ?_
    refine WL.nil ?_
    refine WC.condF rfl ?_
    refine WC.seq<|WC.region ?_
    refine WL.q rfl (r_cmp (r_eql rfl rfl) (beqF (q2))) ?_
    refine WL.q rfl (r_assign rfl) ?_
    refine WL.nil ?_
    refine WC.condF rfl ?_
    refine WC.seq<|WC.region ?_
    refine WL.q rfl (r_cmp (r_eql rfl rfl) (beqF (q3))) ?_
    refine WL.q rfl (r_assign rfl) ?_
    refine WL.nil ?_
    refine WC.condF rfl ?_
    refine WC.seq<|WC.region ?_
    refine WL.q rfl (r_cmp (r_eql rfl rfl) (beqF (q4))) ?_
    refine WL.q rfl (r_assign rfl) ?_
    refine WL.nil ?_
    refine WC.condF rfl ?_
    refine WC.seq<|WC.region ?_
    refine WL.q rfl (r_cmp (r_eql rfl rfl) (beqF (q5))) ?_
    refine WL.q rfl (r_assign rfl) ?_
    refine WL.nil ?_
    refine WC.condF rfl ?_
    refine WC.seq<|WC.region ?_
    refine WL.q rfl (r_cmp (r_eql rfl rfl) (beqF (q6))) ?_
    refine WL.q rfl (r_assign rfl) ?_
    refine WL.nil ?_
    refine WC.condF rfl ?_
    refine WC.seq<|WC.region ?_
    refine WL.q rfl (r_cmp (r_eql rfl rfl) (beqF (q7))) ?_
    refine WL.q rfl (r_assign rfl) ?_
    refine WL.nil ?_
    refine WC.condF rfl ?_
    refine WC.seq<|WC.region ?_
    refine WL.q rfl (r_cmp (r_eql rfl rfl) (beqF (q8))) ?_
    refine WL.q rfl (r_assign rfl) ?_
    refine WL.nil ?_
    refine WC.condF rfl ?_
    refine WC.seq<|WC.region ?_
    refine WL.q rfl (r_cmp (r_eql rfl rfl) (beqF (q9))) ?_
    refine WL.q rfl (r_assign rfl) ?_
    refine WL.nil ?_
    refine WC.condF rfl ?_
    refine WC.seq<|WC.region ?_
    refine WL.q rfl (r_cmp (r_eql rfl rfl) (beqF (q10))) ?_
    refine WL.q rfl (r_assign rfl) ?_
    refine WL.nil ?_
    refine WC.condF rfl ?_
    refine WC.seq<|WC.region ?_
    refine WL.q rfl (r_cmp (r_eql rfl rfl) (beqF (q11))) ?_
    refine WL.q rfl (r_assign rfl) ?_
    refine WL.nil ?_
    refine WC.condF rfl ?_
    refine WC.seq<|WC.region ?_
    refine WL.q rfl (r_cmp (r_eql rfl rfl) (beqF (q12))) ?_
    refine WL.q rfl (r_assign rfl) ?_
    refine WL.nil ?_
    refine WC.condF rfl ?_
    refine WC.seq<|WC.region ?_
    refine WL.q rfl (r_cmp (r_eql rfl rfl) (beqF (q13))) ?_
    refine WL.q rfl (r_assign rfl) ?_
    refine WL.nil ?_
    refine WC.condF rfl ?_
    refine WC.seq<|WC.region ?_
    refine WL.q rfl (r_cmp (r_eql rfl rfl) (beqF (q14))) ?_
    refine WL.q rfl (r_assign rfl) ?_
    refine WL.nil ?_
    refine WC.condF rfl ?_
    refine WC.seq<|WC.region ?_
    refine WL.q rfl (r_cmp (r_eql rfl rfl) (beqF (q15))) ?_
    refine WL.q rfl (r_assign rfl) ?_
    refine WL.nil ?_
    refine WC.condF rfl ?_
    refine WC.seq<|WC.region ?_
    refine WL.q rfl (r_cmp (r_eql rfl rfl) (beqF (q16))) ?_
    refine WL.q rfl (r_assign rfl) ?_
    refine WL.nil ?_
    refine WC.condF rfl ?_
    refine WC.seq<|WC.region ?_
    refine WL.q rfl (r_cmp (r_eql rfl rfl) (beqF (q17))) ?_
    refine WL.q rfl (r_assign rfl) ?_
    refine WL.nil ?_
    refine WC.condF rfl ?_
    refine WC.seq<|WC.region ?_
    refine WL.q rfl (r_cmp (r_eql rfl rfl) (beqF (q18))) ?_
    refine WL.q rfl (r_assign rfl) ?_
    refine WL.nil ?_
    refine WC.condF rfl ?_
    refine WC.seq<|WC.region ?_
    refine WL.q rfl (r_cmp (r_eql rfl rfl) (beqF (q19))) ?_
    refine WL.q rfl (r_assign rfl) ?_
    refine WL.nil ?_
    refine WC.condF rfl ?_
    refine WC.seq<|WC.region ?_
    refine WL.q rfl (r_cmp (r_eql rfl rfl) (beqF (q20))) ?_
    refine WL.q rfl (r_assign rfl) ?_
    refine WL.nil ?_
    refine WC.condF rfl ?_
    refine WC.seq<|WC.region ?_
    refine WL.q rfl (r_cmp (r_eql rfl rfl) (beqF (q21))) ?_
    refine WL.q rfl (r_assign rfl) ?_
    refine WL.nil ?_
    refine WC.condF rfl ?_
    refine WC.seq<|WC.region ?_
    refine WL.q rfl (r_cmp (r_eql rfl rfl) (beqF (q22))) ?_
    refine WL.q rfl (r_assign rfl) ?_
    refine WL.nil ?_
    refine WC.condF rfl ?_
    refine WC.seq<|WC.region ?_
    refine WL.q rfl (r_cmp (r_eql rfl rfl) (beqF (q23))) ?_
    refine WL.q rfl (r_assign rfl) ?_
    refine WL.nil ?_
    refine WC.condF rfl ?_
    refine WC.seq<|WC.region ?_
    refine WL.q rfl (r_cmp (r_eql rfl rfl) (beqF (q24))) ?_
    refine WL.q rfl (r_assign rfl) ?_
    refine WL.nil ?_
    refine WC.condF rfl ?_
    refine WC.seq<|WC.region ?_
    refine WL.q rfl (r_cmp (r_eql rfl rfl) (beqF (q25))) ?_
    refine WL.q rfl (r_assign rfl) ?_
    refine WL.nil ?_
    refine WC.condF rfl ?_
    refine WC.seq<|WC.region ?_
    refine WL.q rfl (r_cmp (r_eql rfl rfl) (beqT (q26))) ?_
    refine WL.q rfl (r_assign rfl) ?_
    refine WL.nil ?_
    refine WC.condT rfl ?_
    refine WC.seq<|WC.region ?_
    refine WL.q rfl (r_bld (cs:=[_,_,_,_]) bld_96 rfl rfl) ?_
    refine WL.l0 (l_storeW sz_96 rfl rfl (by first|rfl|assumption|(simp[*];done)|simp[Value.oneCell', *]) (by first|rfl|simp[*]) hb1 (by first|rfl|simp[*])) fun _ w2 hh=>?_
    obtain⟨hb1,e2,hz2⟩:=hh
    refine WL.nil ?_
    refine WC.ret ?_
    replace he:=he.then (e1.then e2)
    exact finC rfl hb1 agg_96 ⟨⟨_,_,by rw[qt]⟩,he.weaken fun b hb _=>hb⟩
  rcases Decidable.em (z=220)with q27|q27
  · have qt:tyI z=4:=(by unfold tyI;repeat (first|rw[if_pos (by omega)]|rw[if_neg (by omega)]))
    refine doesR Tryz.func57 rfl rfl rfl ?_
    have he:Evo (fun b=>b<w.heap.size) w w:=Evo.refl w
    refine WC.seq<|WC.region ?_
    have hs1:=he.size
    refine WL.l rfl (l_alloc zt_96 rfl) fun _ w1 hh=>?_
    obtain⟨rfl,hb1,e1⟩:=hh
    refine WL.nil ?_
    refine WC.seq<|WC.seq<|WC.region ?_
    refine WL.q rfl (r_move rfl) ?_
    refine WL.nil ?_
    refine WC.block ?_
    refine WC.seq<|WC.region ?_
    refine WL.q rfl (r_cmp (r_eql rfl rfl) (beqF (q0))) ?_
    refine WL.q rfl (r_assign rfl) ?_
    refine WL.nil ?_
    refine WC.condF rfl ?_
    refine WC.seq<|WC.region ?_
    refine WL.q rfl (r_cmp (r_eql rfl rfl) (beqF (q1))) ?_
    refine WL.q rfl (r_assign rfl) ?_
    refine WL.nil ?_
    refine WC.condF rfl ?_
    refine WC.seq<|WC.region ?_
    refine WL.q rfl (r_cmp (r_eql rfl rfl) (beqF (q2))) ?_
    refine WL.q rfl (r_assign rfl) ?_
    refine WL.nil ?_
    refine WC.condF rfl ?_
    refine WC.seq<|WC.region ?_
    refine WL.q rfl (r_cmp (r_eql rfl rfl) (beqF (q3))) ?_
    refine WL.q rfl (r_assign rfl) ?_
    refine WL.nil ?_
    refine WC.condF rfl ?_
    refine WC.seq<|WC.region ?_
    refine WL.q rfl (r_cmp (r_eql rfl rfl) (beqF (q4))) ?_
    refine WL.q rfl (r_assign rfl) ?_
    refine WL.nil ?_
    refine WC.condF rfl ?_
    refine WC.seq<|WC.region ?_
    refine WL.q rfl (r_cmp (r_eql rfl rfl) (beqF (q5))) ?_
    refine WL.q rfl (r_assign rfl) ?_
    refine WL.nil ?_
    refine WC.condF rfl ?_
    refine WC.seq<|WC.region ?_
    refine WL.q rfl (r_cmp (r_eql rfl rfl) (beqF (q6))) ?_
    refine WL.q rfl (r_assign rfl) ?_
    refine WL.nil ?_
    refine WC.condF rfl ?_
    refine WC.seq<|WC.region ?_
    refine WL.q rfl (r_cmp (r_eql rfl rfl) (beqF (q7))) ?_
    refine WL.q rfl (r_assign rfl) ?_
    refine WL.nil ?_
    refine WC.condF rfl ?_
    refine WC.seq<|WC.region ?_
    refine WL.q rfl (r_cmp (r_eql rfl rfl) (beqF (q8))) ?_
    refine WL.q rfl (r_assign rfl) ?_
    refine WL.nil ?_
    refine WC.condF rfl ?_
    refine WC.seq<|WC.region ?_
    refine WL.q rfl (r_cmp (r_eql rfl rfl) (beqF (q9))) ?_
    refine WL.q rfl (r_assign rfl) ?_
    refine WL.nil ?_
    refine WC.condF rfl ?_
    refine WC.seq<|WC.region ?_
    refine WL.q rfl (r_cmp (r_eql rfl rfl) (beqF (q10))) ?_
    refine WL.q rfl (r_assign rfl) ?_
    refine WL.nil ?_
    refine WC.condF rfl ?_
    refine WC.seq<|WC.region ?_
    refine WL.q rfl (r_cmp (r_eql rfl rfl) (beqF (q11))) ?_
    refine WL.q rfl (r_assign rfl) ?_
    refine WL.nil ?_
    refine WC.condF rfl ?_
    refine WC.seq<|WC.region ?_
    refine WL.q rfl (r_cmp (r_eql rfl rfl) (beqF (q12))) ?_
    refine WL.q rfl (r_assign rfl) ?_
    refine WL.nil ?_
    refine WC.condF rfl ?_
    refine WC.seq<|WC.region ?_
    refine WL.q rfl (r_cmp (r_eql rfl rfl) (beqF (q13))) ?_
    refine WL.q rfl (r_assign rfl) ?_
    refine WL.nil ?_
    refine WC.condF rfl ?_
    refine WC.seq<|WC.region ?_
    refine WL.q rfl (r_cmp (r_eql rfl rfl) (beqF (q14))) ?_
    refine WL.q rfl (r_assign rfl) ?_
    refine WL.nil ?_
    refine WC.condF rfl ?_
    refine WC.seq<|WC.region ?_
    refine WL.q rfl (r_cmp (r_eql rfl rfl) (beqF (q15))) ?_
    refine WL.q rfl (r_assign rfl) ?_
    refine WL.nil ?_
    refine WC.condF rfl ?_
    refine WC.seq<|WC.region ?_
    refine WL.q rfl (r_cmp (r_eql rfl rfl) (beqF (q16))) ?_
    refine WL.q rfl (r_assign rfl) ?_
    refine WL.nil ?_
    refine WC.condF rfl ?_
    refine WC.seq<|WC.region ?_
    refine WL.q rfl (r_cmp (r_eql rfl rfl) (beqF (q17))) ?_
    refine WL.q rfl (r_assign rfl) ?_
    refine WL.nil ?_
    refine WC.condF rfl ?_
    refine WC.seq<|WC.region ?_
    refine WL.q rfl (r_cmp (r_eql rfl rfl) (beqF (q18))) ?_
    refine WL.q rfl (r_assign rfl) ?_
    refine WL.nil ?_
    refine WC.condF rfl ?_
    refine WC.seq<|WC.region ?_
    refine WL.q rfl (r_cmp (r_eql rfl rfl) (beqF (q19))) ?_
    refine WL.q rfl (r_assign rfl) ?_
    refine WL.nil ?_
    refine WC.condF rfl ?_
    refine WC.seq<|WC.region ?_
    refine WL.q rfl (r_cmp (r_eql rfl rfl) (beqF (q20))) ?_
    refine WL.q rfl (r_assign rfl) ?_
    refine WL.nil ?_
    refine WC.condF rfl ?_
    refine WC.seq<|WC.region ?_
    refine WL.q rfl (r_cmp (r_eql rfl rfl) (beqF (q21))) ?_
    refine WL.q rfl (r_assign rfl) ?_
    refine WL.nil ?_
    refine WC.condF rfl ?_
    refine WC.seq<|WC.region ?_
    refine WL.q rfl (r_cmp (r_eql rfl rfl) (beqF (q22))) ?_
    refine WL.q rfl (r_assign rfl) ?_
    refine WL.nil ?_
    refine WC.condF rfl ?_
    refine WC.seq<|WC.region ?_
    refine WL.q rfl (r_cmp (r_eql rfl rfl) (beqF (q23))) ?_
    refine WL.q rfl (r_assign rfl) ?_
    refine WL.nil ?_
    refine WC.condF rfl ?_
    refine WC.seq<|WC.region ?_
    refine WL.q rfl (r_cmp (r_eql rfl rfl) (beqF (q24))) ?_
    refine WL.q rfl (r_assign rfl) ?_
    refine WL.nil ?_
    refine WC.condF rfl ?_
    refine WC.seq<|WC.region ?_
    refine WL.q rfl (r_cmp (r_eql rfl rfl) (beqF (q25))) ?_
    refine WL.q rfl (r_assign rfl) ?_
    refine WL.nil ?_
    refine WC.condF rfl ?_
    refine WC.seq<|WC.region ?_
    refine WL.q rfl (r_cmp (r_eql rfl rfl) (beqF (q26))) ?_
    refine WL.q rfl (r_assign rfl) ?_
    refine WL.nil ?_
    refine WC.condF rfl ?_
    refine WC.seq<|WC.region ?_
    refine WL.q rfl (r_cmp (r_eql rfl rfl) (beqT (q27))) ?_
    refine WL.q rfl (r_assign rfl) ?_
    refine WL.nil ?_
    refine WC.condT rfl ?_
    refine WC.seq<|WC.region ?_
    refine WL.q rfl (r_bld (cs:=[_,_,_,_]) bld_96 rfl rfl) ?_
    refine WL.l0 (l_storeW sz_96 rfl rfl (by first|rfl|assumption|(simp[*];done)|simp[Value.oneCell', *]) (by first|rfl|simp[*]) hb1 (by first|rfl|simp[*])) fun _ w2 hh=>?_
    obtain⟨hb1,e2,hz2⟩:=hh
    refine WL.nil ?_
    refine WC.ret ?_
    replace he:=he.then (e1.then e2)
    exact finC rfl hb1 agg_96 ⟨⟨_,_,by rw[qt]⟩,he.weaken fun b hb _=>hb⟩
  rcases Decidable.em (z=221)with q28|q28
  · have qt:tyI z=4:=(by unfold tyI;repeat (first|rw[if_pos (by omega)]|rw[if_neg (by omega)]))
    refine doesR Tryz.func57 rfl rfl rfl ?_
    have he:Evo (fun b=>b<w.heap.size) w w:=Evo.refl w
    refine WC.seq<|WC.region ?_
    have hs1:=he.size
    refine WL.l rfl (l_alloc zt_96 rfl) fun _ w1 hh=>?_
    obtain⟨rfl,hb1,e1⟩:=hh
    refine WL.nil ?_
    refine WC.seq<|WC.seq<|WC.region ?_
    refine WL.q rfl (r_move rfl) ?_
    refine WL.nil ?_
    refine WC.block ?_
    refine WC.seq<|WC.region ?_
    refine WL.q rfl (r_cmp (r_eql rfl rfl) (beqF (q0))) ?_
    refine WL.q rfl (r_assign rfl) ?_
    refine WL.nil ?_
    refine WC.condF rfl ?_
    refine WC.seq<|WC.region ?_
    refine WL.q rfl (r_cmp (r_eql rfl rfl) (beqF (q1))) ?_
    refine WL.q rfl (r_assign rfl) ?_
    refine WL.nil ?_
    refine WC.condF rfl ?_
    refine WC.seq<|WC.region ?_
    refine WL.q rfl (r_cmp (r_eql rfl rfl) (beqF (q2))) ?_
    refine WL.q rfl (r_assign rfl) ?_
    refine WL.nil ?_
    refine WC.condF rfl ?_
    refine WC.seq<|WC.region ?_
    refine WL.q rfl (r_cmp (r_eql rfl rfl) (beqF (q3))) ?_
    refine WL.q rfl (r_assign rfl) ?_
    refine WL.nil ?_
    refine WC.condF rfl ?_
    refine WC.seq<|WC.region ?_
    refine WL.q rfl (r_cmp (r_eql rfl rfl) (beqF (q4))) ?_
    refine WL.q rfl (r_assign rfl) ?_
    refine WL.nil ?_
    refine WC.condF rfl ?_
    refine WC.seq<|WC.region ?_
    refine WL.q rfl (r_cmp (r_eql rfl rfl) (beqF (q5))) ?_
    refine WL.q rfl (r_assign rfl) ?_
    refine WL.nil ?_
    refine WC.condF rfl ?_
    refine WC.seq<|WC.region ?_
    refine WL.q rfl (r_cmp (r_eql rfl rfl) (beqF (q6))) ?_
    refine WL.q rfl (r_assign rfl) ?_
    refine WL.nil ?_
    refine WC.condF rfl ?_
    refine WC.seq<|WC.region ?_
    refine WL.q rfl (r_cmp (r_eql rfl rfl) (beqF (q7))) ?_
    refine WL.q rfl (r_assign rfl) ?_
    refine WL.nil ?_
    refine WC.condF rfl ?_
    refine WC.seq<|WC.region ?_
    refine WL.q rfl (r_cmp (r_eql rfl rfl) (beqF (q8))) ?_
    refine WL.q rfl (r_assign rfl) ?_
    refine WL.nil ?_
    refine WC.condF rfl ?_
    refine WC.seq<|WC.region ?_
    refine WL.q rfl (r_cmp (r_eql rfl rfl) (beqF (q9))) ?_
    refine WL.q rfl (r_assign rfl) ?_
    refine WL.nil ?_
    refine WC.condF rfl ?_
    refine WC.seq<|WC.region ?_
    refine WL.q rfl (r_cmp (r_eql rfl rfl) (beqF (q10))) ?_
    refine WL.q rfl (r_assign rfl) ?_
    refine WL.nil ?_
    refine WC.condF rfl ?_
    refine WC.seq<|WC.region ?_
    refine WL.q rfl (r_cmp (r_eql rfl rfl) (beqF (q11))) ?_
    refine WL.q rfl (r_assign rfl) ?_
    refine WL.nil ?_
    refine WC.condF rfl ?_
    refine WC.seq<|WC.region ?_
    refine WL.q rfl (r_cmp (r_eql rfl rfl) (beqF (q12))) ?_
    refine WL.q rfl (r_assign rfl) ?_
    refine WL.nil ?_
    refine WC.condF rfl ?_
    refine WC.seq<|WC.region ?_
    refine WL.q rfl (r_cmp (r_eql rfl rfl) (beqF (q13))) ?_
    refine WL.q rfl (r_assign rfl) ?_
    refine WL.nil ?_
    refine WC.condF rfl ?_
    refine WC.seq<|WC.region ?_
    refine WL.q rfl (r_cmp (r_eql rfl rfl) (beqF (q14))) ?_
    refine WL.q rfl (r_assign rfl) ?_
    refine WL.nil ?_
    refine WC.condF rfl ?_
    refine WC.seq<|WC.region ?_
    refine WL.q rfl (r_cmp (r_eql rfl rfl) (beqF (q15))) ?_
    refine WL.q rfl (r_assign rfl) ?_
    refine WL.nil ?_
    refine WC.condF rfl ?_
    refine WC.seq<|WC.region ?_
    refine WL.q rfl (r_cmp (r_eql rfl rfl) (beqF (q16))) ?_
    refine WL.q rfl (r_assign rfl) ?_
    refine WL.nil ?_
    refine WC.condF rfl ?_
    refine WC.seq<|WC.region ?_
    refine WL.q rfl (r_cmp (r_eql rfl rfl) (beqF (q17))) ?_
    refine WL.q rfl (r_assign rfl) ?_
    refine WL.nil ?_
    refine WC.condF rfl ?_
    refine WC.seq<|WC.region ?_
    refine WL.q rfl (r_cmp (r_eql rfl rfl) (beqF (q18))) ?_
    refine WL.q rfl (r_assign rfl) ?_
    refine WL.nil ?_
    refine WC.condF rfl ?_
    refine WC.seq<|WC.region ?_
    refine WL.q rfl (r_cmp (r_eql rfl rfl) (beqF (q19))) ?_
    refine WL.q rfl (r_assign rfl) ?_
    refine WL.nil ?_
    refine WC.condF rfl ?_
    refine WC.seq<|WC.region ?_
    refine WL.q rfl (r_cmp (r_eql rfl rfl) (beqF (q20))) ?_
    refine WL.q rfl (r_assign rfl) ?_
    refine WL.nil ?_
    refine WC.condF rfl ?_
    refine WC.seq<|WC.region ?_
    refine WL.q rfl (r_cmp (r_eql rfl rfl) (beqF (q21))) ?_
    refine WL.q rfl (r_assign rfl) ?_
    refine WL.nil ?_
    refine WC.condF rfl ?_
    refine WC.seq<|WC.region ?_
    refine WL.q rfl (r_cmp (r_eql rfl rfl) (beqF (q22))) ?_
    refine WL.q rfl (r_assign rfl) ?_
    refine WL.nil ?_
    refine WC.condF rfl ?_
    refine WC.seq<|WC.region ?_
    refine WL.q rfl (r_cmp (r_eql rfl rfl) (beqF (q23))) ?_
    refine WL.q rfl (r_assign rfl) ?_
    refine WL.nil ?_
    refine WC.condF rfl ?_
    refine WC.seq<|WC.region ?_
    refine WL.q rfl (r_cmp (r_eql rfl rfl) (beqF (q24))) ?_
    refine WL.q rfl (r_assign rfl) ?_
    refine WL.nil ?_
    refine WC.condF rfl ?_
    refine WC.seq<|WC.region ?_
    refine WL.q rfl (r_cmp (r_eql rfl rfl) (beqF (q25))) ?_
    refine WL.q rfl (r_assign rfl) ?_
    refine WL.nil ?_
    refine WC.condF rfl ?_
    refine WC.seq<|WC.region ?_
    refine WL.q rfl (r_cmp (r_eql rfl rfl) (beqF (q26))) ?_
    refine WL.q rfl (r_assign rfl) ?_
    refine WL.nil ?_
    refine WC.condF rfl ?_
    refine WC.seq<|WC.region ?_
    refine WL.q rfl (r_cmp (r_eql rfl rfl) (beqF (q27))) ?_
    refine WL.q rfl (r_assign rfl) ?_
    refine WL.nil ?_
    refine WC.condF rfl ?_
    refine WC.seq<|WC.region ?_
    refine WL.q rfl (r_cmp (r_eql rfl rfl) (beqT (q28))) ?_
    refine WL.q rfl (r_assign rfl) ?_
    refine WL.nil ?_
    refine WC.condT rfl ?_
    refine WC.seq<|WC.region ?_
    refine WL.q rfl (r_bld (cs:=[_,_,_,_]) bld_96 rfl rfl) ?_
    refine WL.l0 (l_storeW sz_96 rfl rfl (by first|rfl|assumption|(simp[*];done)|simp[Value.oneCell', *]) (by first|rfl|simp[*]) hb1 (by first|rfl|simp[*])) fun _ w2 hh=>?_
    obtain⟨hb1,e2,hz2⟩:=hh
    refine WL.nil ?_
    refine WC.ret ?_
    replace he:=he.then (e1.then e2)
    exact finC rfl hb1 agg_96 ⟨⟨_,_,by rw[qt]⟩,he.weaken fun b hb _=>hb⟩
  rcases Decidable.em (z=222)with q29|q29
  · have qt:tyI z=3:=(by unfold tyI;repeat (first|rw[if_pos (by omega)]|rw[if_neg (by omega)]))
    refine doesR Tryz.func57 rfl rfl rfl ?_
    have he:Evo (fun b=>b<w.heap.size) w w:=Evo.refl w
    refine WC.seq<|WC.region ?_
    have hs1:=he.size
    refine WL.l rfl (l_alloc zt_96 rfl) fun _ w1 hh=>?_
    obtain⟨rfl,hb1,e1⟩:=hh
    refine WL.nil ?_
    refine WC.seq<|WC.seq<|WC.region ?_
    refine WL.q rfl (r_move rfl) ?_
    refine WL.nil ?_
    refine WC.block ?_
    refine WC.seq<|WC.region ?_
    refine WL.q rfl (r_cmp (r_eql rfl rfl) (beqF (q0))) ?_
    refine WL.q rfl (r_assign rfl) ?_
    refine WL.nil ?_
    refine WC.condF rfl ?_
    refine WC.seq<|WC.region ?_
    refine WL.q rfl (r_cmp (r_eql rfl rfl) (beqF (q1))) ?_
    refine WL.q rfl (r_assign rfl) ?_
    refine WL.nil ?_
    refine WC.condF rfl ?_
    refine WC.seq<|WC.region ?_
    refine WL.q rfl (r_cmp (r_eql rfl rfl) (beqF (q2))) ?_
    refine WL.q rfl (r_assign rfl) ?_
    refine WL.nil ?_
    refine WC.condF rfl ?_
    refine WC.seq<|WC.region ?_
    refine WL.q rfl (r_cmp (r_eql rfl rfl) (beqF (q3))) ?_
    refine WL.q rfl (r_assign rfl) ?_
    refine WL.nil ?_
    refine WC.condF rfl ?_
    refine WC.seq<|WC.region ?_
    refine WL.q rfl (r_cmp (r_eql rfl rfl) (beqF (q4))) ?_
    refine WL.q rfl (r_assign rfl) ?_
    refine WL.nil ?_
    refine WC.condF rfl ?_
    refine WC.seq<|WC.region ?_
    refine WL.q rfl (r_cmp (r_eql rfl rfl) (beqF (q5))) ?_
    refine WL.q rfl (r_assign rfl) ?_
    refine WL.nil ?_
    refine WC.condF rfl ?_
    refine WC.seq<|WC.region ?_
    refine WL.q rfl (r_cmp (r_eql rfl rfl) (beqF (q6))) ?_
    refine WL.q rfl (r_assign rfl) ?_
    refine WL.nil ?_
    refine WC.condF rfl ?_
    refine WC.seq<|WC.region ?_
    refine WL.q rfl (r_cmp (r_eql rfl rfl) (beqF (q7))) ?_
    refine WL.q rfl (r_assign rfl) ?_
    refine WL.nil ?_
    refine WC.condF rfl ?_
    refine WC.seq<|WC.region ?_
    refine WL.q rfl (r_cmp (r_eql rfl rfl) (beqF (q8))) ?_
    refine WL.q rfl (r_assign rfl) ?_
    refine WL.nil ?_
    refine WC.condF rfl ?_
    refine WC.seq<|WC.region ?_
    refine WL.q rfl (r_cmp (r_eql rfl rfl) (beqF (q9))) ?_
    refine WL.q rfl (r_assign rfl) ?_
    refine WL.nil ?_
    refine WC.condF rfl ?_
    refine WC.seq<|WC.region ?_
    refine WL.q rfl (r_cmp (r_eql rfl rfl) (beqF (q10))) ?_
    refine WL.q rfl (r_assign rfl) ?_
    refine WL.nil ?_
    refine WC.condF rfl ?_
    refine WC.seq<|WC.region ?_
    refine WL.q rfl (r_cmp (r_eql rfl rfl) (beqF (q11))) ?_
    refine WL.q rfl (r_assign rfl) ?_
    refine WL.nil ?_
    refine WC.condF rfl ?_
    refine WC.seq<|WC.region ?_
    refine WL.q rfl (r_cmp (r_eql rfl rfl) (beqF (q12))) ?_
    refine WL.q rfl (r_assign rfl) ?_
    refine WL.nil ?_
    refine WC.condF rfl ?_
    refine WC.seq<|WC.region ?_
    refine WL.q rfl (r_cmp (r_eql rfl rfl) (beqF (q13))) ?_
    refine WL.q rfl (r_assign rfl) ?_
    refine WL.nil ?_
    refine WC.condF rfl ?_
    refine WC.seq<|WC.region ?_
    refine WL.q rfl (r_cmp (r_eql rfl rfl) (beqF (q14))) ?_
    refine WL.q rfl (r_assign rfl) ?_
    refine WL.nil ?_
    refine WC.condF rfl ?_
    refine WC.seq<|WC.region ?_
    refine WL.q rfl (r_cmp (r_eql rfl rfl) (beqF (q15))) ?_
    refine WL.q rfl (r_assign rfl) ?_
    refine WL.nil ?_
    refine WC.condF rfl ?_
    refine WC.seq<|WC.region ?_
    refine WL.q rfl (r_cmp (r_eql rfl rfl) (beqF (q16))) ?_
    refine WL.q rfl (r_assign rfl) ?_
    refine WL.nil ?_
    refine WC.condF rfl ?_
    refine WC.seq<|WC.region ?_
    refine WL.q rfl (r_cmp (r_eql rfl rfl) (beqF (q17))) ?_
    refine WL.q rfl (r_assign rfl) ?_
    refine WL.nil ?_
    refine WC.condF rfl ?_
    refine WC.seq<|WC.region ?_
    refine WL.q rfl (r_cmp (r_eql rfl rfl) (beqF (q18))) ?_
    refine WL.q rfl (r_assign rfl) ?_
    refine WL.nil ?_
    refine WC.condF rfl ?_
    refine WC.seq<|WC.region ?_
    refine WL.q rfl (r_cmp (r_eql rfl rfl) (beqF (q19))) ?_
    refine WL.q rfl (r_assign rfl) ?_
    refine WL.nil ?_
    refine WC.condF rfl ?_
    refine WC.seq<|WC.region ?_
    refine WL.q rfl (r_cmp (r_eql rfl rfl) (beqF (q20))) ?_
    refine WL.q rfl (r_assign rfl) ?_
    refine WL.nil ?_
    refine WC.condF rfl ?_
    refine WC.seq<|WC.region ?_
    refine WL.q rfl (r_cmp (r_eql rfl rfl) (beqF (q21))) ?_
    refine WL.q rfl (r_assign rfl) ?_
    refine WL.nil ?_
    refine WC.condF rfl ?_
    refine WC.seq<|WC.region ?_
    refine WL.q rfl (r_cmp (r_eql rfl rfl) (beqF (q22))) ?_
    refine WL.q rfl (r_assign rfl) ?_
    refine WL.nil ?_
    refine WC.condF rfl ?_
    refine WC.seq<|WC.region ?_
    refine WL.q rfl (r_cmp (r_eql rfl rfl) (beqF (q23))) ?_
    refine WL.q rfl (r_assign rfl) ?_
    refine WL.nil ?_
    refine WC.condF rfl ?_
    refine WC.seq<|WC.region ?_
    refine WL.q rfl (r_cmp (r_eql rfl rfl) (beqF (q24))) ?_
    refine WL.q rfl (r_assign rfl) ?_
    refine WL.nil ?_
    refine WC.condF rfl ?_
    refine WC.seq<|WC.region ?_
    refine WL.q rfl (r_cmp (r_eql rfl rfl) (beqF (q25))) ?_
    refine WL.q rfl (r_assign rfl) ?_
    refine WL.nil ?_
    refine WC.condF rfl ?_
    refine WC.seq<|WC.region ?_
    refine WL.q rfl (r_cmp (r_eql rfl rfl) (beqF (q26))) ?_
    refine WL.q rfl (r_assign rfl) ?_
    refine WL.nil ?_
    refine WC.condF rfl ?_
    refine WC.seq<|WC.region ?_
    refine WL.q rfl (r_cmp (r_eql rfl rfl) (beqF (q27))) ?_
    refine WL.q rfl (r_assign rfl) ?_
    refine WL.nil ?_
    refine WC.condF rfl ?_
    refine WC.seq<|WC.region ?_
    refine WL.q rfl (r_cmp (r_eql rfl rfl) (beqF (q28))) ?_
    refine WL.q rfl (r_assign rfl) ?_
    refine WL.nil ?_
    refine WC.condF rfl ?_
    refine WC.seq<|WC.region ?_
    refine WL.q rfl (r_cmp (r_eql rfl rfl) (beqT (q29))) ?_
    refine WL.q rfl (r_assign rfl) ?_
    refine WL.nil ?_
    refine WC.condT rfl ?_
    refine WC.seq<|WC.region ?_
    refine WL.q rfl (r_bld (cs:=[_,_,_,_]) bld_96 rfl rfl) ?_
    refine WL.l0 (l_storeW sz_96 rfl rfl (by first|rfl|assumption|(simp[*];done)|simp[Value.oneCell', *]) (by first|rfl|simp[*]) hb1 (by first|rfl|simp[*])) fun _ w2 hh=>?_
    obtain⟨hb1,e2,hz2⟩:=hh
    refine WL.nil ?_
    refine WC.ret ?_
    replace he:=he.then (e1.then e2)
    exact finC rfl hb1 agg_96 ⟨⟨_,_,by rw[qt]⟩,he.weaken fun b hb _=>hb⟩
  rcases Decidable.em (z=223)with q30|q30
  · have qt:tyI z=3:=(by unfold tyI;repeat (first|rw[if_pos (by omega)]|rw[if_neg (by omega)]))
    refine doesR Tryz.func57 rfl rfl rfl ?_
    have he:Evo (fun b=>b<w.heap.size) w w:=Evo.refl w
    refine WC.seq<|WC.region ?_
    have hs1:=he.size
    refine WL.l rfl (l_alloc zt_96 rfl) fun _ w1 hh=>?_
    obtain⟨rfl,hb1,e1⟩:=hh
    refine WL.nil ?_
    refine WC.seq<|WC.seq<|WC.region ?_
    refine WL.q rfl (r_move rfl) ?_
    refine WL.nil ?_
    refine WC.block ?_
    refine WC.seq<|WC.region ?_
    refine WL.q rfl (r_cmp (r_eql rfl rfl) (beqF (q0))) ?_
    refine WL.q rfl (r_assign rfl) ?_
    refine WL.nil ?_
    refine WC.condF rfl ?_
    refine WC.seq<|WC.region ?_
    refine WL.q rfl (r_cmp (r_eql rfl rfl) (beqF (q1))) ?_
    refine WL.q rfl (r_assign rfl) ?_
    refine WL.nil ?_
    refine WC.condF rfl ?_
    refine WC.seq<|WC.region ?_
    refine WL.q rfl (r_cmp (r_eql rfl rfl) (beqF (q2))) ?_
    refine WL.q rfl (r_assign rfl) ?_
    refine WL.nil ?_
    refine WC.condF rfl ?_
    refine WC.seq<|WC.region ?_
    refine WL.q rfl (r_cmp (r_eql rfl rfl) (beqF (q3))) ?_
    refine WL.q rfl (r_assign rfl) ?_
    refine WL.nil ?_
    refine WC.condF rfl ?_
    refine WC.seq<|WC.region ?_
    refine WL.q rfl (r_cmp (r_eql rfl rfl) (beqF (q4))) ?_
    refine WL.q rfl (r_assign rfl) ?_
    refine WL.nil ?_
    refine WC.condF rfl ?_
    refine WC.seq<|WC.region ?_
    refine WL.q rfl (r_cmp (r_eql rfl rfl) (beqF (q5))) ?_
    refine WL.q rfl (r_assign rfl) ?_
    refine WL.nil ?_
    refine WC.condF rfl ?_
    refine WC.seq<|WC.region ?_
    refine WL.q rfl (r_cmp (r_eql rfl rfl) (beqF (q6))) ?_
    refine WL.q rfl (r_assign rfl) ?_
    refine WL.nil ?_
    refine WC.condF rfl ?_
    refine WC.seq<|WC.region ?_
    refine WL.q rfl (r_cmp (r_eql rfl rfl) (beqF (q7))) ?_
    refine WL.q rfl (r_assign rfl) ?_
    refine WL.nil ?_
    refine WC.condF rfl ?_
    refine WC.seq<|WC.region ?_
    refine WL.q rfl (r_cmp (r_eql rfl rfl) (beqF (q8))) ?_
    refine WL.q rfl (r_assign rfl) ?_
    refine WL.nil ?_
    refine WC.condF rfl ?_
    refine WC.seq<|WC.region ?_
    refine WL.q rfl (r_cmp (r_eql rfl rfl) (beqF (q9))) ?_
    refine WL.q rfl (r_assign rfl) ?_
    refine WL.nil ?_
    refine WC.condF rfl ?_
    refine WC.seq<|WC.region ?_
    refine WL.q rfl (r_cmp (r_eql rfl rfl) (beqF (q10))) ?_
    refine WL.q rfl (r_assign rfl) ?_
    refine WL.nil ?_
    refine WC.condF rfl ?_
    refine WC.seq<|WC.region ?_
    refine WL.q rfl (r_cmp (r_eql rfl rfl) (beqF (q11))) ?_
    refine WL.q rfl (r_assign rfl) ?_
    refine WL.nil ?_
    refine WC.condF rfl ?_
    refine WC.seq<|WC.region ?_
    refine WL.q rfl (r_cmp (r_eql rfl rfl) (beqF (q12))) ?_
    refine WL.q rfl (r_assign rfl) ?_
    refine WL.nil ?_
    refine WC.condF rfl ?_
    refine WC.seq<|WC.region ?_
    refine WL.q rfl (r_cmp (r_eql rfl rfl) (beqF (q13))) ?_
    refine WL.q rfl (r_assign rfl) ?_
    refine WL.nil ?_
    refine WC.condF rfl ?_
    refine WC.seq<|WC.region ?_
    refine WL.q rfl (r_cmp (r_eql rfl rfl) (beqF (q14))) ?_
    refine WL.q rfl (r_assign rfl) ?_
    refine WL.nil ?_
    refine WC.condF rfl ?_
    refine WC.seq<|WC.region ?_
    refine WL.q rfl (r_cmp (r_eql rfl rfl) (beqF (q15))) ?_
    refine WL.q rfl (r_assign rfl) ?_
    refine WL.nil ?_
    refine WC.condF rfl ?_
    refine WC.seq<|WC.region ?_
    refine WL.q rfl (r_cmp (r_eql rfl rfl) (beqF (q16))) ?_
    refine WL.q rfl (r_assign rfl) ?_
    refine WL.nil ?_
    refine WC.condF rfl ?_
    refine WC.seq<|WC.region ?_
    refine WL.q rfl (r_cmp (r_eql rfl rfl) (beqF (q17))) ?_
    refine WL.q rfl (r_assign rfl) ?_
    refine WL.nil ?_
    refine WC.condF rfl ?_
    refine WC.seq<|WC.region ?_
    refine WL.q rfl (r_cmp (r_eql rfl rfl) (beqF (q18))) ?_
    refine WL.q rfl (r_assign rfl) ?_
    refine WL.nil ?_
    refine WC.condF rfl ?_
    refine WC.seq<|WC.region ?_
    refine WL.q rfl (r_cmp (r_eql rfl rfl) (beqF (q19))) ?_
    refine WL.q rfl (r_assign rfl) ?_
    refine WL.nil ?_
    refine WC.condF rfl ?_
    refine WC.seq<|WC.region ?_
    refine WL.q rfl (r_cmp (r_eql rfl rfl) (beqF (q20))) ?_
    refine WL.q rfl (r_assign rfl) ?_
    refine WL.nil ?_
    refine WC.condF rfl ?_
    refine WC.seq<|WC.region ?_
    refine WL.q rfl (r_cmp (r_eql rfl rfl) (beqF (q21))) ?_
    refine WL.q rfl (r_assign rfl) ?_
    refine WL.nil ?_
    refine WC.condF rfl ?_
    refine WC.seq<|WC.region ?_
    refine WL.q rfl (r_cmp (r_eql rfl rfl) (beqF (q22))) ?_
    refine WL.q rfl (r_assign rfl) ?_
    refine WL.nil ?_
    refine WC.condF rfl ?_
    refine WC.seq<|WC.region ?_
    refine WL.q rfl (r_cmp (r_eql rfl rfl) (beqF (q23))) ?_
    refine WL.q rfl (r_assign rfl) ?_
    refine WL.nil ?_
    refine WC.condF rfl ?_
    refine WC.seq<|WC.region ?_
    refine WL.q rfl (r_cmp (r_eql rfl rfl) (beqF (q24))) ?_
    refine WL.q rfl (r_assign rfl) ?_
    refine WL.nil ?_
    refine WC.condF rfl ?_
    refine WC.seq<|WC.region ?_
    refine WL.q rfl (r_cmp (r_eql rfl rfl) (beqF (q25))) ?_
    refine WL.q rfl (r_assign rfl) ?_
    refine WL.nil ?_
    refine WC.condF rfl ?_
    refine WC.seq<|WC.region ?_
    refine WL.q rfl (r_cmp (r_eql rfl rfl) (beqF (q26))) ?_
    refine WL.q rfl (r_assign rfl) ?_
    refine WL.nil ?_
    refine WC.condF rfl ?_
    refine WC.seq<|WC.region ?_
    refine WL.q rfl (r_cmp (r_eql rfl rfl) (beqF (q27))) ?_
    refine WL.q rfl (r_assign rfl) ?_
    refine WL.nil ?_
    refine WC.condF rfl ?_
    refine WC.seq<|WC.region ?_
    refine WL.q rfl (r_cmp (r_eql rfl rfl) (beqF (q28))) ?_
    refine WL.q rfl (r_assign rfl) ?_
    refine WL.nil ?_
    refine WC.condF rfl ?_
    refine WC.seq<|WC.region ?_
    refine WL.q rfl (r_cmp (r_eql rfl rfl) (beqF (q29))) ?_
    refine WL.q rfl (r_assign rfl) ?_
    refine WL.nil ?_
    refine WC.condF rfl ?_
    refine WC.seq<|WC.region ?_
    refine WL.q rfl (r_cmp (r_eql rfl rfl) (beqT (q30))) ?_
    refine WL.q rfl (r_assign rfl) ?_
    refine WL.nil ?_
    refine WC.condT rfl ?_
    refine WC.seq<|WC.region ?_
    refine WL.q rfl (r_bld (cs:=[_,_,_,_]) bld_96 rfl rfl) ?_
    refine WL.l0 (l_storeW sz_96 rfl rfl (by first|rfl|assumption|(simp[*];done)|simp[Value.oneCell', *]) (by first|rfl|simp[*]) hb1 (by first|rfl|simp[*])) fun _ w2 hh=>?_
    obtain⟨hb1,e2,hz2⟩:=hh
    refine WL.nil ?_
    refine WC.ret ?_
    replace he:=he.then (e1.then e2)
    exact finC rfl hb1 agg_96 ⟨⟨_,_,by rw[qt]⟩,he.weaken fun b hb _=>hb⟩
  rcases Decidable.em (z<128)with r0|r0
  · have qt:tyI z=8:=(by unfold tyI;repeat (first|rw[if_pos (by omega)]|rw[if_neg (by omega)]))
    refine doesR Tryz.func57 rfl rfl rfl ?_
    have he:Evo (fun b=>b<w.heap.size) w w:=Evo.refl w
    refine WC.seq<|WC.region ?_
    have hs1:=he.size
    refine WL.l rfl (l_alloc zt_96 rfl) fun _ w1 hh=>?_
    obtain⟨rfl,hb1,e1⟩:=hh
    refine WL.nil ?_
    refine WC.seq<|WC.seq<|WC.region ?_
    refine WL.q rfl (r_move rfl) ?_
    refine WL.nil ?_
    refine WC.block ?_
    refine WC.seq<|WC.region ?_
    refine WL.q rfl (r_cmp (r_eql rfl rfl) (beqF (q0))) ?_
    refine WL.q rfl (r_assign rfl) ?_
    refine WL.nil ?_
    refine WC.condF rfl ?_
    refine WC.seq<|WC.region ?_
    refine WL.q rfl (r_cmp (r_eql rfl rfl) (beqF (q1))) ?_
    refine WL.q rfl (r_assign rfl) ?_
    refine WL.nil ?_
    refine WC.condF rfl ?_
    refine WC.seq<|WC.region ?_
    refine WL.q rfl (r_cmp (r_eql rfl rfl) (beqF (q2))) ?_
    refine WL.q rfl (r_assign rfl) ?_
    refine WL.nil ?_
    refine WC.condF rfl ?_
    refine WC.seq<|WC.region ?_
    refine WL.q rfl (r_cmp (r_eql rfl rfl) (beqF (q3))) ?_
    refine WL.q rfl (r_assign rfl) ?_
    refine WL.nil ?_
    refine WC.condF rfl ?_
    refine WC.seq<|WC.region ?_
    refine WL.q rfl (r_cmp (r_eql rfl rfl) (beqF (q4))) ?_
    refine WL.q rfl (r_assign rfl) ?_
    refine WL.nil ?_
    refine WC.condF rfl ?_
    refine WC.seq<|WC.region ?_
    refine WL.q rfl (r_cmp (r_eql rfl rfl) (beqF (q5))) ?_
    refine WL.q rfl (r_assign rfl) ?_
    refine WL.nil ?_
    refine WC.condF rfl ?_
    refine WC.seq<|WC.region ?_
    refine WL.q rfl (r_cmp (r_eql rfl rfl) (beqF (q6))) ?_
    refine WL.q rfl (r_assign rfl) ?_
    refine WL.nil ?_
    refine WC.condF rfl ?_
    refine WC.seq<|WC.region ?_
    refine WL.q rfl (r_cmp (r_eql rfl rfl) (beqF (q7))) ?_
    refine WL.q rfl (r_assign rfl) ?_
    refine WL.nil ?_
    refine WC.condF rfl ?_
    refine WC.seq<|WC.region ?_
    refine WL.q rfl (r_cmp (r_eql rfl rfl) (beqF (q8))) ?_
    refine WL.q rfl (r_assign rfl) ?_
    refine WL.nil ?_
    refine WC.condF rfl ?_
    refine WC.seq<|WC.region ?_
    refine WL.q rfl (r_cmp (r_eql rfl rfl) (beqF (q9))) ?_
    refine WL.q rfl (r_assign rfl) ?_
    refine WL.nil ?_
    refine WC.condF rfl ?_
    refine WC.seq<|WC.region ?_
    refine WL.q rfl (r_cmp (r_eql rfl rfl) (beqF (q10))) ?_
    refine WL.q rfl (r_assign rfl) ?_
    refine WL.nil ?_
    refine WC.condF rfl ?_
    refine WC.seq<|WC.region ?_
    refine WL.q rfl (r_cmp (r_eql rfl rfl) (beqF (q11))) ?_
    refine WL.q rfl (r_assign rfl) ?_
    refine WL.nil ?_
    refine WC.condF rfl ?_
    refine WC.seq<|WC.region ?_
    refine WL.q rfl (r_cmp (r_eql rfl rfl) (beqF (q12))) ?_
    refine WL.q rfl (r_assign rfl) ?_
    refine WL.nil ?_
    refine WC.condF rfl ?_
    refine WC.seq<|WC.region ?_
    refine WL.q rfl (r_cmp (r_eql rfl rfl) (beqF (q13))) ?_
    refine WL.q rfl (r_assign rfl) ?_
    refine WL.nil ?_
    refine WC.condF rfl ?_
    refine WC.seq<|WC.region ?_
    refine WL.q rfl (r_cmp (r_eql rfl rfl) (beqF (q14))) ?_
    refine WL.q rfl (r_assign rfl) ?_
    refine WL.nil ?_
    refine WC.condF rfl ?_
    refine WC.seq<|WC.region ?_
    refine WL.q rfl (r_cmp (r_eql rfl rfl) (beqF (q15))) ?_
    refine WL.q rfl (r_assign rfl) ?_
    refine WL.nil ?_
    refine WC.condF rfl ?_
    refine WC.seq<|WC.region ?_
    refine WL.q rfl (r_cmp (r_eql rfl rfl) (beqF (q16))) ?_
    refine WL.q rfl (r_assign rfl) ?_
    refine WL.nil ?_
    refine WC.condF rfl ?_
    refine WC.seq<|WC.region ?_
    refine WL.q rfl (r_cmp (r_eql rfl rfl) (beqF (q17))) ?_
    refine WL.q rfl (r_assign rfl) ?_
    refine WL.nil ?_
    refine WC.condF rfl ?_
    refine WC.seq<|WC.region ?_
    refine WL.q rfl (r_cmp (r_eql rfl rfl) (beqF (q18))) ?_
    refine WL.q rfl (r_assign rfl) ?_
    refine WL.nil ?_
    refine WC.condF rfl ?_
    refine WC.seq<|WC.region ?_
    refine WL.q rfl (r_cmp (r_eql rfl rfl) (beqF (q19))) ?_
    refine WL.q rfl (r_assign rfl) ?_
    refine WL.nil ?_
    refine WC.condF rfl ?_
    refine WC.seq<|WC.region ?_
    refine WL.q rfl (r_cmp (r_eql rfl rfl) (beqF (q20))) ?_
    refine WL.q rfl (r_assign rfl) ?_
    refine WL.nil ?_
    refine WC.condF rfl ?_
    refine WC.seq<|WC.region ?_
    refine WL.q rfl (r_cmp (r_eql rfl rfl) (beqF (q21))) ?_
    refine WL.q rfl (r_assign rfl) ?_
    refine WL.nil ?_
    refine WC.condF rfl ?_
    refine WC.seq<|WC.region ?_
    refine WL.q rfl (r_cmp (r_eql rfl rfl) (beqF (q22))) ?_
    refine WL.q rfl (r_assign rfl) ?_
    refine WL.nil ?_
    refine WC.condF rfl ?_
    refine WC.seq<|WC.region ?_
    refine WL.q rfl (r_cmp (r_eql rfl rfl) (beqF (q23))) ?_
    refine WL.q rfl (r_assign rfl) ?_
    refine WL.nil ?_
    refine WC.condF rfl ?_
    refine WC.seq<|WC.region ?_
    refine WL.q rfl (r_cmp (r_eql rfl rfl) (beqF (q24))) ?_
    refine WL.q rfl (r_assign rfl) ?_
    refine WL.nil ?_
    refine WC.condF rfl ?_
    refine WC.seq<|WC.region ?_
    refine WL.q rfl (r_cmp (r_eql rfl rfl) (beqF (q25))) ?_
    refine WL.q rfl (r_assign rfl) ?_
    refine WL.nil ?_
    refine WC.condF rfl ?_
    refine WC.seq<|WC.region ?_
    refine WL.q rfl (r_cmp (r_eql rfl rfl) (beqF (q26))) ?_
    refine WL.q rfl (r_assign rfl) ?_
    refine WL.nil ?_
    refine WC.condF rfl ?_
    refine WC.seq<|WC.region ?_
    refine WL.q rfl (r_cmp (r_eql rfl rfl) (beqF (q27))) ?_
    refine WL.q rfl (r_assign rfl) ?_
    refine WL.nil ?_
    refine WC.condF rfl ?_
    refine WC.seq<|WC.region ?_
    refine WL.q rfl (r_cmp (r_eql rfl rfl) (beqF (q28))) ?_
    refine WL.q rfl (r_assign rfl) ?_
    refine WL.nil ?_
    refine WC.condF rfl ?_
    refine WC.seq<|WC.region ?_
    refine WL.q rfl (r_cmp (r_eql rfl rfl) (beqF (q29))) ?_
    refine WL.q rfl (r_assign rfl) ?_
    refine WL.nil ?_
    refine WC.condF rfl ?_
    refine WC.seq<|WC.region ?_
    refine WL.q rfl (r_cmp (r_eql rfl rfl) (beqF (q30))) ?_
    refine WL.q rfl (r_assign rfl) ?_
    refine WL.nil ?_
    refine WC.condF rfl ?_
    refine WC.skip ?_
    refine WC.seq<|WC.block ?_
    refine WC.seq<|WC.region ?_
    refine WL.q rfl (r_move rfl) ?_
    refine WL.q rfl (r_cmp (r_geq rfl rfl) (decide_eq_true (by(omega)))) ?_
    refine WL.q rfl (r_move rfl) ?_
    refine WL.qg rfl rfl rfl rfl (r_move rfl) ?_
    refine WL.qg rfl rfl rfl rfl (r_cmp (r_lss rfl rfl) (decide_eq_true (by(omega)))) ?_
    refine WL.q rfl (r_pick rfl rfl rfl) ?_
    refine WL.q rfl (r_assign rfl) ?_
    refine WL.nil ?_
    refine WC.condT rfl ?_
    refine WC.seq<|WC.region ?_
    refine WL.q rfl (r_bld (cs:=[_,_,_,_]) bld_96 rfl rfl) ?_
    refine WL.l0 (l_storeW sz_96 rfl rfl (by first|rfl|assumption|(simp[*];done)|simp[Value.oneCell', *]) (by first|rfl|simp[*]) hb1 (by first|rfl|simp[*])) fun _ w2 hh=>?_
    obtain⟨hb1,e2,hz2⟩:=hh
    refine WL.nil ?_
    refine WC.ret ?_
    replace he:=he.then (e1.then e2)
    exact finC rfl hb1 agg_96 ⟨⟨_,_,by rw[qt]⟩,he.weaken fun b hb _=>hb⟩
  rcases Decidable.em (160≤z∧z<192)with r1|r1
  · have qt:tyI z=1:=(by unfold tyI;repeat (first|rw[if_pos (by omega)]|rw[if_neg (by omega)]))
    refine doesR Tryz.func57 rfl rfl rfl ?_
    have he:Evo (fun b=>b<w.heap.size) w w:=Evo.refl w
    refine WC.seq<|WC.region ?_
    have hs1:=he.size
    refine WL.l rfl (l_alloc zt_96 rfl) fun _ w1 hh=>?_
    obtain⟨rfl,hb1,e1⟩:=hh
    refine WL.nil ?_
    refine WC.seq<|WC.seq<|WC.region ?_
    refine WL.q rfl (r_move rfl) ?_
    refine WL.nil ?_
    refine WC.block ?_
    refine WC.seq<|WC.region ?_
    refine WL.q rfl (r_cmp (r_eql rfl rfl) (beqF (q0))) ?_
    refine WL.q rfl (r_assign rfl) ?_
    refine WL.nil ?_
    refine WC.condF rfl ?_
    refine WC.seq<|WC.region ?_
    refine WL.q rfl (r_cmp (r_eql rfl rfl) (beqF (q1))) ?_
    refine WL.q rfl (r_assign rfl) ?_
    refine WL.nil ?_
    refine WC.condF rfl ?_
    refine WC.seq<|WC.region ?_
    refine WL.q rfl (r_cmp (r_eql rfl rfl) (beqF (q2))) ?_
    refine WL.q rfl (r_assign rfl) ?_
    refine WL.nil ?_
    refine WC.condF rfl ?_
    refine WC.seq<|WC.region ?_
    refine WL.q rfl (r_cmp (r_eql rfl rfl) (beqF (q3))) ?_
    refine WL.q rfl (r_assign rfl) ?_
    refine WL.nil ?_
    refine WC.condF rfl ?_
    refine WC.seq<|WC.region ?_
    refine WL.q rfl (r_cmp (r_eql rfl rfl) (beqF (q4))) ?_
    refine WL.q rfl (r_assign rfl) ?_
    refine WL.nil ?_
    refine WC.condF rfl ?_
    refine WC.seq<|WC.region ?_
    refine WL.q rfl (r_cmp (r_eql rfl rfl) (beqF (q5))) ?_
    refine WL.q rfl (r_assign rfl) ?_
    refine WL.nil ?_
    refine WC.condF rfl ?_
    refine WC.seq<|WC.region ?_
    refine WL.q rfl (r_cmp (r_eql rfl rfl) (beqF (q6))) ?_
    refine WL.q rfl (r_assign rfl) ?_
    refine WL.nil ?_
    refine WC.condF rfl ?_
    refine WC.seq<|WC.region ?_
    refine WL.q rfl (r_cmp (r_eql rfl rfl) (beqF (q7))) ?_
    refine WL.q rfl (r_assign rfl) ?_
    refine WL.nil ?_
    refine WC.condF rfl ?_
    refine WC.seq<|WC.region ?_
    refine WL.q rfl (r_cmp (r_eql rfl rfl) (beqF (q8))) ?_
    refine WL.q rfl (r_assign rfl) ?_
    refine WL.nil ?_
    refine WC.condF rfl ?_
    refine WC.seq<|WC.region ?_
    refine WL.q rfl (r_cmp (r_eql rfl rfl) (beqF (q9))) ?_
    refine WL.q rfl (r_assign rfl) ?_
    refine WL.nil ?_
    refine WC.condF rfl ?_
    refine WC.seq<|WC.region ?_
    refine WL.q rfl (r_cmp (r_eql rfl rfl) (beqF (q10))) ?_
    refine WL.q rfl (r_assign rfl) ?_
    refine WL.nil ?_
    refine WC.condF rfl ?_
    refine WC.seq<|WC.region ?_
    refine WL.q rfl (r_cmp (r_eql rfl rfl) (beqF (q11))) ?_
    refine WL.q rfl (r_assign rfl) ?_
    refine WL.nil ?_
    refine WC.condF rfl ?_
    refine WC.seq<|WC.region ?_
    refine WL.q rfl (r_cmp (r_eql rfl rfl) (beqF (q12))) ?_
    refine WL.q rfl (r_assign rfl) ?_
    refine WL.nil ?_
    refine WC.condF rfl ?_
    refine WC.seq<|WC.region ?_
    refine WL.q rfl (r_cmp (r_eql rfl rfl) (beqF (q13))) ?_
    refine WL.q rfl (r_assign rfl) ?_
    refine WL.nil ?_
    refine WC.condF rfl ?_
    refine WC.seq<|WC.region ?_
    refine WL.q rfl (r_cmp (r_eql rfl rfl) (beqF (q14))) ?_
    refine WL.q rfl (r_assign rfl) ?_
    refine WL.nil ?_
    refine WC.condF rfl ?_
    refine WC.seq<|WC.region ?_
    refine WL.q rfl (r_cmp (r_eql rfl rfl) (beqF (q15))) ?_
    refine WL.q rfl (r_assign rfl) ?_
    refine WL.nil ?_
    refine WC.condF rfl ?_
    refine WC.seq<|WC.region ?_
    refine WL.q rfl (r_cmp (r_eql rfl rfl) (beqF (q16))) ?_
    refine WL.q rfl (r_assign rfl) ?_
    refine WL.nil ?_
    refine WC.condF rfl ?_
    refine WC.seq<|WC.region ?_
    refine WL.q rfl (r_cmp (r_eql rfl rfl) (beqF (q17))) ?_
    refine WL.q rfl (r_assign rfl) ?_
    refine WL.nil ?_
    refine WC.condF rfl ?_
    refine WC.seq<|WC.region ?_
    refine WL.q rfl (r_cmp (r_eql rfl rfl) (beqF (q18))) ?_
    refine WL.q rfl (r_assign rfl) ?_
    refine WL.nil ?_
    refine WC.condF rfl ?_
    refine WC.seq<|WC.region ?_
    refine WL.q rfl (r_cmp (r_eql rfl rfl) (beqF (q19))) ?_
    refine WL.q rfl (r_assign rfl) ?_
    refine WL.nil ?_
    refine WC.condF rfl ?_
    refine WC.seq<|WC.region ?_
    refine WL.q rfl (r_cmp (r_eql rfl rfl) (beqF (q20))) ?_
    refine WL.q rfl (r_assign rfl) ?_
    refine WL.nil ?_
    refine WC.condF rfl ?_
    refine WC.seq<|WC.region ?_
    refine WL.q rfl (r_cmp (r_eql rfl rfl) (beqF (q21))) ?_
    refine WL.q rfl (r_assign rfl) ?_
    refine WL.nil ?_
    refine WC.condF rfl ?_
    refine WC.seq<|WC.region ?_
    refine WL.q rfl (r_cmp (r_eql rfl rfl) (beqF (q22))) ?_
    refine WL.q rfl (r_assign rfl) ?_
    refine WL.nil ?_
    refine WC.condF rfl ?_
    refine WC.seq<|WC.region ?_
    refine WL.q rfl (r_cmp (r_eql rfl rfl) (beqF (q23))) ?_
    refine WL.q rfl (r_assign rfl) ?_
    refine WL.nil ?_
    refine WC.condF rfl ?_
    refine WC.seq<|WC.region ?_
    refine WL.q rfl (r_cmp (r_eql rfl rfl) (beqF (q24))) ?_
    refine WL.q rfl (r_assign rfl) ?_
    refine WL.nil ?_
    refine WC.condF rfl ?_
    refine WC.seq<|WC.region ?_
    refine WL.q rfl (r_cmp (r_eql rfl rfl) (beqF (q25))) ?_
    refine WL.q rfl (r_assign rfl) ?_
    refine WL.nil ?_
    refine WC.condF rfl ?_
    refine WC.seq<|WC.region ?_
    refine WL.q rfl (r_cmp (r_eql rfl rfl) (beqF (q26))) ?_
    refine WL.q rfl (r_assign rfl) ?_
    refine WL.nil ?_
    refine WC.condF rfl ?_
    refine WC.seq<|WC.region ?_
    refine WL.q rfl (r_cmp (r_eql rfl rfl) (beqF (q27))) ?_
    refine WL.q rfl (r_assign rfl) ?_
    refine WL.nil ?_
    refine WC.condF rfl ?_
    refine WC.seq<|WC.region ?_
    refine WL.q rfl (r_cmp (r_eql rfl rfl) (beqF (q28))) ?_
    refine WL.q rfl (r_assign rfl) ?_
    refine WL.nil ?_
    refine WC.condF rfl ?_
    refine WC.seq<|WC.region ?_
    refine WL.q rfl (r_cmp (r_eql rfl rfl) (beqF (q29))) ?_
    refine WL.q rfl (r_assign rfl) ?_
    refine WL.nil ?_
    refine WC.condF rfl ?_
    refine WC.seq<|WC.region ?_
    refine WL.q rfl (r_cmp (r_eql rfl rfl) (beqF (q30))) ?_
    refine WL.q rfl (r_assign rfl) ?_
    refine WL.nil ?_
    refine WC.condF rfl ?_
    refine WC.skip ?_
    refine WC.seq<|WC.block ?_
    refine WC.seq<|WC.region ?_
    refine WL.q rfl (r_move rfl) ?_
    refine WL.q rfl (r_cmp (r_geq rfl rfl) (decide_eq_true (by(omega)))) ?_
    refine WL.q rfl (r_move rfl) ?_
    refine WL.qg rfl rfl rfl rfl (r_move rfl) ?_
    refine WL.qg rfl rfl rfl rfl (r_cmp (r_lss rfl rfl) (decide_eq_false (by(omega)))) ?_
    refine WL.q rfl (r_pick rfl rfl rfl) ?_
    refine WL.q rfl (r_assign rfl) ?_
    refine WL.nil ?_
    refine WC.condF rfl ?_
    refine WC.seq<|WC.region ?_
    refine WL.q rfl (r_move rfl) ?_
    refine WL.q rfl (r_cmp (r_geq rfl rfl) (decide_eq_true (by(omega)))) ?_
    refine WL.q rfl (r_move rfl) ?_
    refine WL.qg rfl rfl rfl rfl (r_move rfl) ?_
    refine WL.qg rfl rfl rfl rfl (r_cmp (r_lss rfl rfl) (decide_eq_true (by(omega)))) ?_
    refine WL.q rfl (r_pick rfl rfl rfl) ?_
    refine WL.q rfl (r_assign rfl) ?_
    refine WL.nil ?_
    refine WC.condT rfl ?_
    refine WC.seq<|WC.region ?_
    refine WL.q rfl (r_move rfl) ?_
    refine WL.l rfl (l_do body_81 rfl (rfixstr_ok h0 h1)) fun v2 w2 hh=>?_
    obtain⟨rfl,e2⟩:=hh
    refine WL.q rfl (r_add rfl rfl) ?_
    refine WL.q rfl (r_bld (cs:=[_,_,_,_]) bld_96 rfl rfl) ?_
    replace hb1:=hb1.mono e2
    refine WL.l0 (l_storeW sz_96 rfl rfl (by first|rfl|assumption|(simp[*];done)|simp[Value.oneCell', *]) (by first|rfl|simp[*]) hb1 (by first|rfl|simp[*])) fun _ w3 hh=>?_
    obtain⟨hb1,e3,hz3⟩:=hh
    refine WL.nil ?_
    refine WC.ret ?_
    replace he:=((he.then e1).then e2).then e3
    exact finC rfl hb1 agg_96 ⟨⟨_,_,by rw[qt]⟩,he.weaken fun b hb _=>hb⟩
  rcases Decidable.em (128≤z∧z<144)with r2|r2
  · have qt:tyI z=3:=(by unfold tyI;repeat (first|rw[if_pos (by omega)]|rw[if_neg (by omega)]))
    refine doesR Tryz.func57 rfl rfl rfl ?_
    have he:Evo (fun b=>b<w.heap.size) w w:=Evo.refl w
    refine WC.seq<|WC.region ?_
    have hs1:=he.size
    refine WL.l rfl (l_alloc zt_96 rfl) fun _ w1 hh=>?_
    obtain⟨rfl,hb1,e1⟩:=hh
    refine WL.nil ?_
    refine WC.seq<|WC.seq<|WC.region ?_
    refine WL.q rfl (r_move rfl) ?_
    refine WL.nil ?_
    refine WC.block ?_
    refine WC.seq<|WC.region ?_
    refine WL.q rfl (r_cmp (r_eql rfl rfl) (beqF (q0))) ?_
    refine WL.q rfl (r_assign rfl) ?_
    refine WL.nil ?_
    refine WC.condF rfl ?_
    refine WC.seq<|WC.region ?_
    refine WL.q rfl (r_cmp (r_eql rfl rfl) (beqF (q1))) ?_
    refine WL.q rfl (r_assign rfl) ?_
    refine WL.nil ?_
    refine WC.condF rfl ?_
    refine WC.seq<|WC.region ?_
    refine WL.q rfl (r_cmp (r_eql rfl rfl) (beqF (q2))) ?_
    refine WL.q rfl (r_assign rfl) ?_
    refine WL.nil ?_
    refine WC.condF rfl ?_
    refine WC.seq<|WC.region ?_
    refine WL.q rfl (r_cmp (r_eql rfl rfl) (beqF (q3))) ?_
    refine WL.q rfl (r_assign rfl) ?_
    refine WL.nil ?_
    refine WC.condF rfl ?_
    refine WC.seq<|WC.region ?_
    refine WL.q rfl (r_cmp (r_eql rfl rfl) (beqF (q4))) ?_
    refine WL.q rfl (r_assign rfl) ?_
    refine WL.nil ?_
    refine WC.condF rfl ?_
    refine WC.seq<|WC.region ?_
    refine WL.q rfl (r_cmp (r_eql rfl rfl) (beqF (q5))) ?_
    refine WL.q rfl (r_assign rfl) ?_
    refine WL.nil ?_
    refine WC.condF rfl ?_
    refine WC.seq<|WC.region ?_
    refine WL.q rfl (r_cmp (r_eql rfl rfl) (beqF (q6))) ?_
    refine WL.q rfl (r_assign rfl) ?_
    refine WL.nil ?_
    refine WC.condF rfl ?_
    refine WC.seq<|WC.region ?_
    refine WL.q rfl (r_cmp (r_eql rfl rfl) (beqF (q7))) ?_
    refine WL.q rfl (r_assign rfl) ?_
    refine WL.nil ?_
    refine WC.condF rfl ?_
    refine WC.seq<|WC.region ?_
    refine WL.q rfl (r_cmp (r_eql rfl rfl) (beqF (q8))) ?_
    refine WL.q rfl (r_assign rfl) ?_
    refine WL.nil ?_
    refine WC.condF rfl ?_
    refine WC.seq<|WC.region ?_
    refine WL.q rfl (r_cmp (r_eql rfl rfl) (beqF (q9))) ?_
    refine WL.q rfl (r_assign rfl) ?_
    refine WL.nil ?_
    refine WC.condF rfl ?_
    refine WC.seq<|WC.region ?_
    refine WL.q rfl (r_cmp (r_eql rfl rfl) (beqF (q10))) ?_
    refine WL.q rfl (r_assign rfl) ?_
    refine WL.nil ?_
    refine WC.condF rfl ?_
    refine WC.seq<|WC.region ?_
    refine WL.q rfl (r_cmp (r_eql rfl rfl) (beqF (q11))) ?_
    refine WL.q rfl (r_assign rfl) ?_
    refine WL.nil ?_
    refine WC.condF rfl ?_
    refine WC.seq<|WC.region ?_
    refine WL.q rfl (r_cmp (r_eql rfl rfl) (beqF (q12))) ?_
    refine WL.q rfl (r_assign rfl) ?_
    refine WL.nil ?_
    refine WC.condF rfl ?_
    refine WC.seq<|WC.region ?_
    refine WL.q rfl (r_cmp (r_eql rfl rfl) (beqF (q13))) ?_
    refine WL.q rfl (r_assign rfl) ?_
    refine WL.nil ?_
    refine WC.condF rfl ?_
    refine WC.seq<|WC.region ?_
    refine WL.q rfl (r_cmp (r_eql rfl rfl) (beqF (q14))) ?_
    refine WL.q rfl (r_assign rfl) ?_
    refine WL.nil ?_
    refine WC.condF rfl ?_
    refine WC.seq<|WC.region ?_
    refine WL.q rfl (r_cmp (r_eql rfl rfl) (beqF (q15))) ?_
    refine WL.q rfl (r_assign rfl) ?_
    refine WL.nil ?_
    refine WC.condF rfl ?_
    refine WC.seq<|WC.region ?_
    refine WL.q rfl (r_cmp (r_eql rfl rfl) (beqF (q16))) ?_
    refine WL.q rfl (r_assign rfl) ?_
    refine WL.nil ?_
    refine WC.condF rfl ?_
    refine WC.seq<|WC.region ?_
    refine WL.q rfl (r_cmp (r_eql rfl rfl) (beqF (q17))) ?_
    refine WL.q rfl (r_assign rfl) ?_
    refine WL.nil ?_
    refine WC.condF rfl ?_
    refine WC.seq<|WC.region ?_
    refine WL.q rfl (r_cmp (r_eql rfl rfl) (beqF (q18))) ?_
    refine WL.q rfl (r_assign rfl) ?_
    refine WL.nil ?_
    refine WC.condF rfl ?_
    refine WC.seq<|WC.region ?_
    refine WL.q rfl (r_cmp (r_eql rfl rfl) (beqF (q19))) ?_
    refine WL.q rfl (r_assign rfl) ?_
    refine WL.nil ?_
    refine WC.condF rfl ?_
    refine WC.seq<|WC.region ?_
    refine WL.q rfl (r_cmp (r_eql rfl rfl) (beqF (q20))) ?_
    refine WL.q rfl (r_assign rfl) ?_
    refine WL.nil ?_
    refine WC.condF rfl ?_
    refine WC.seq<|WC.region ?_
    refine WL.q rfl (r_cmp (r_eql rfl rfl) (beqF (q21))) ?_
    refine WL.q rfl (r_assign rfl) ?_
    refine WL.nil ?_
    refine WC.condF rfl ?_
    refine WC.seq<|WC.region ?_
    refine WL.q rfl (r_cmp (r_eql rfl rfl) (beqF (q22))) ?_
    refine WL.q rfl (r_assign rfl) ?_
    refine WL.nil ?_
    refine WC.condF rfl ?_
    refine WC.seq<|WC.region ?_
    refine WL.q rfl (r_cmp (r_eql rfl rfl) (beqF (q23))) ?_
    refine WL.q rfl (r_assign rfl) ?_
    refine WL.nil ?_
    refine WC.condF rfl ?_
    refine WC.seq<|WC.region ?_
    refine WL.q rfl (r_cmp (r_eql rfl rfl) (beqF (q24))) ?_
    refine WL.q rfl (r_assign rfl) ?_
    refine WL.nil ?_
    refine WC.condF rfl ?_
    refine WC.seq<|WC.region ?_
    refine WL.q rfl (r_cmp (r_eql rfl rfl) (beqF (q25))) ?_
    refine WL.q rfl (r_assign rfl) ?_
    refine WL.nil ?_
    refine WC.condF rfl ?_
    refine WC.seq<|WC.region ?_
    refine WL.q rfl (r_cmp (r_eql rfl rfl) (beqF (q26))) ?_
    refine WL.q rfl (r_assign rfl) ?_
    refine WL.nil ?_
    refine WC.condF rfl ?_
    refine WC.seq<|WC.region ?_
    refine WL.q rfl (r_cmp (r_eql rfl rfl) (beqF (q27))) ?_
    refine WL.q rfl (r_assign rfl) ?_
    refine WL.nil ?_
    refine WC.condF rfl ?_
    refine WC.seq<|WC.region ?_
    refine WL.q rfl (r_cmp (r_eql rfl rfl) (beqF (q28))) ?_
    refine WL.q rfl (r_assign rfl) ?_
    refine WL.nil ?_
    refine WC.condF rfl ?_
    refine WC.seq<|WC.region ?_
    refine WL.q rfl (r_cmp (r_eql rfl rfl) (beqF (q29))) ?_
    refine WL.q rfl (r_assign rfl) ?_
    refine WL.nil ?_
    refine WC.condF rfl ?_
    refine WC.seq<|WC.region ?_
    refine WL.q rfl (r_cmp (r_eql rfl rfl) (beqF (q30))) ?_
    refine WL.q rfl (r_assign rfl) ?_
    refine WL.nil ?_
    refine WC.condF rfl ?_
    refine WC.skip ?_
    refine WC.seq<|WC.block ?_
    refine WC.seq<|WC.region ?_
    refine WL.q rfl (r_move rfl) ?_
    refine WL.q rfl (r_cmp (r_geq rfl rfl) (decide_eq_true (by(omega)))) ?_
    refine WL.q rfl (r_move rfl) ?_
    refine WL.qg rfl rfl rfl rfl (r_move rfl) ?_
    refine WL.qg rfl rfl rfl rfl (r_cmp (r_lss rfl rfl) (decide_eq_false (by(omega)))) ?_
    refine WL.q rfl (r_pick rfl rfl rfl) ?_
    refine WL.q rfl (r_assign rfl) ?_
    refine WL.nil ?_
    refine WC.condF rfl ?_
    refine WC.seq<|WC.region ?_
    refine WL.q rfl (r_move rfl) ?_
    refine WL.q rfl (r_cmp (r_geq rfl rfl) (decide_eq_false (by(omega)))) ?_
    refine WL.q rfl (r_move rfl) ?_
    refine WL.sk rfl rfl rfl rfl rfl ?_
    refine WL.sk rfl rfl rfl rfl rfl ?_
    refine WL.q rfl (r_pick rfl rfl rfl) ?_
    refine WL.q rfl (r_assign rfl) ?_
    refine WL.nil ?_
    refine WC.condF rfl ?_
    refine WC.seq<|WC.region ?_
    refine WL.q rfl (r_move rfl) ?_
    refine WL.q rfl (r_cmp (r_geq rfl rfl) (decide_eq_true (by(omega)))) ?_
    refine WL.q rfl (r_move rfl) ?_
    refine WL.qg rfl rfl rfl rfl (r_move rfl) ?_
    refine WL.qg rfl rfl rfl rfl (r_cmp (r_lss rfl rfl) (decide_eq_true (by(omega)))) ?_
    refine WL.q rfl (r_pick rfl rfl rfl) ?_
    refine WL.q rfl (r_assign rfl) ?_
    refine WL.nil ?_
    refine WC.condT rfl ?_
    refine WC.seq<|WC.region ?_
    refine WL.q rfl (r_move rfl) ?_
    refine WL.l rfl (l_do body_82 rfl (rfixmap_ok h0 h1)) fun v2 w2 hh=>?_
    obtain⟨rfl,e2⟩:=hh
    refine WL.q rfl (r_mul rfl rfl) ?_
    refine WL.q rfl (r_cvInt cv_5_94 rfl) ?_
    refine WL.q rfl (r_bld (cs:=[_,_,_,_]) bld_96 rfl rfl) ?_
    replace hb1:=hb1.mono e2
    refine WL.l0 (l_storeW sz_96 rfl rfl (by first|rfl|assumption|(simp[*];done)|simp[Value.oneCell', *]) (by first|rfl|simp[*]) hb1 (by first|rfl|simp[*])) fun _ w3 hh=>?_
    obtain⟨hb1,e3,hz3⟩:=hh
    refine WL.nil ?_
    refine WC.ret ?_
    replace he:=((he.then e1).then e2).then e3
    exact finC rfl hb1 agg_96 ⟨⟨_,_,by rw[qt]⟩,he.weaken fun b hb _=>hb⟩
  rcases Decidable.em (144≤z∧z<160)with r3|r3
  · have qt:tyI z=4:=(by unfold tyI;repeat (first|rw[if_pos (by omega)]|rw[if_neg (by omega)]))
    refine doesR Tryz.func57 rfl rfl rfl ?_
    have he:Evo (fun b=>b<w.heap.size) w w:=Evo.refl w
    refine WC.seq<|WC.region ?_
    have hs1:=he.size
    refine WL.l rfl (l_alloc zt_96 rfl) fun _ w1 hh=>?_
    obtain⟨rfl,hb1,e1⟩:=hh
    refine WL.nil ?_
    refine WC.seq<|WC.seq<|WC.region ?_
    refine WL.q rfl (r_move rfl) ?_
    refine WL.nil ?_
    refine WC.block ?_
    refine WC.seq<|WC.region ?_
    refine WL.q rfl (r_cmp (r_eql rfl rfl) (beqF (q0))) ?_
    refine WL.q rfl (r_assign rfl) ?_
    refine WL.nil ?_
    refine WC.condF rfl ?_
    refine WC.seq<|WC.region ?_
    refine WL.q rfl (r_cmp (r_eql rfl rfl) (beqF (q1))) ?_
    refine WL.q rfl (r_assign rfl) ?_
    refine WL.nil ?_
    refine WC.condF rfl ?_
    refine WC.seq<|WC.region ?_
    refine WL.q rfl (r_cmp (r_eql rfl rfl) (beqF (q2))) ?_
    refine WL.q rfl (r_assign rfl) ?_
    refine WL.nil ?_
    refine WC.condF rfl ?_
    refine WC.seq<|WC.region ?_
    refine WL.q rfl (r_cmp (r_eql rfl rfl) (beqF (q3))) ?_
    refine WL.q rfl (r_assign rfl) ?_
    refine WL.nil ?_
    refine WC.condF rfl ?_
    refine WC.seq<|WC.region ?_
    refine WL.q rfl (r_cmp (r_eql rfl rfl) (beqF (q4))) ?_
    refine WL.q rfl (r_assign rfl) ?_
    refine WL.nil ?_
    refine WC.condF rfl ?_
    refine WC.seq<|WC.region ?_
    refine WL.q rfl (r_cmp (r_eql rfl rfl) (beqF (q5))) ?_
    refine WL.q rfl (r_assign rfl) ?_
    refine WL.nil ?_
    refine WC.condF rfl ?_
    refine WC.seq<|WC.region ?_
    refine WL.q rfl (r_cmp (r_eql rfl rfl) (beqF (q6))) ?_
    refine WL.q rfl (r_assign rfl) ?_
    refine WL.nil ?_
    refine WC.condF rfl ?_
    refine WC.seq<|WC.region ?_
    refine WL.q rfl (r_cmp (r_eql rfl rfl) (beqF (q7))) ?_
    refine WL.q rfl (r_assign rfl) ?_
    refine WL.nil ?_
    refine WC.condF rfl ?_
    refine WC.seq<|WC.region ?_
    refine WL.q rfl (r_cmp (r_eql rfl rfl) (beqF (q8))) ?_
    refine WL.q rfl (r_assign rfl) ?_
    refine WL.nil ?_
    refine WC.condF rfl ?_
    refine WC.seq<|WC.region ?_
    refine WL.q rfl (r_cmp (r_eql rfl rfl) (beqF (q9))) ?_
    refine WL.q rfl (r_assign rfl) ?_
    refine WL.nil ?_
    refine WC.condF rfl ?_
    refine WC.seq<|WC.region ?_
    refine WL.q rfl (r_cmp (r_eql rfl rfl) (beqF (q10))) ?_
    refine WL.q rfl (r_assign rfl) ?_
    refine WL.nil ?_
    refine WC.condF rfl ?_
    refine WC.seq<|WC.region ?_
    refine WL.q rfl (r_cmp (r_eql rfl rfl) (beqF (q11))) ?_
    refine WL.q rfl (r_assign rfl) ?_
    refine WL.nil ?_
    refine WC.condF rfl ?_
    refine WC.seq<|WC.region ?_
    refine WL.q rfl (r_cmp (r_eql rfl rfl) (beqF (q12))) ?_
    refine WL.q rfl (r_assign rfl) ?_
    refine WL.nil ?_
    refine WC.condF rfl ?_
    refine WC.seq<|WC.region ?_
    refine WL.q rfl (r_cmp (r_eql rfl rfl) (beqF (q13))) ?_
    refine WL.q rfl (r_assign rfl) ?_
    refine WL.nil ?_
    refine WC.condF rfl ?_
    refine WC.seq<|WC.region ?_
    refine WL.q rfl (r_cmp (r_eql rfl rfl) (beqF (q14))) ?_
    refine WL.q rfl (r_assign rfl) ?_
    refine WL.nil ?_
    refine WC.condF rfl ?_
    refine WC.seq<|WC.region ?_
    refine WL.q rfl (r_cmp (r_eql rfl rfl) (beqF (q15))) ?_
    refine WL.q rfl (r_assign rfl) ?_
    refine WL.nil ?_
    refine WC.condF rfl ?_
    refine WC.seq<|WC.region ?_
    refine WL.q rfl (r_cmp (r_eql rfl rfl) (beqF (q16))) ?_
    refine WL.q rfl (r_assign rfl) ?_
    refine WL.nil ?_
    refine WC.condF rfl ?_
    refine WC.seq<|WC.region ?_
    refine WL.q rfl (r_cmp (r_eql rfl rfl) (beqF (q17))) ?_
    refine WL.q rfl (r_assign rfl) ?_
    refine WL.nil ?_
    refine WC.condF rfl ?_
    refine WC.seq<|WC.region ?_
    refine WL.q rfl (r_cmp (r_eql rfl rfl) (beqF (q18))) ?_
    refine WL.q rfl (r_assign rfl) ?_
    refine WL.nil ?_
    refine WC.condF rfl ?_
    refine WC.seq<|WC.region ?_
    refine WL.q rfl (r_cmp (r_eql rfl rfl) (beqF (q19))) ?_
    refine WL.q rfl (r_assign rfl) ?_
    refine WL.nil ?_
    refine WC.condF rfl ?_
    refine WC.seq<|WC.region ?_
    refine WL.q rfl (r_cmp (r_eql rfl rfl) (beqF (q20))) ?_
    refine WL.q rfl (r_assign rfl) ?_
    refine WL.nil ?_
    refine WC.condF rfl ?_
    refine WC.seq<|WC.region ?_
    refine WL.q rfl (r_cmp (r_eql rfl rfl) (beqF (q21))) ?_
    refine WL.q rfl (r_assign rfl) ?_
    refine WL.nil ?_
    refine WC.condF rfl ?_
    refine WC.seq<|WC.region ?_
    refine WL.q rfl (r_cmp (r_eql rfl rfl) (beqF (q22))) ?_
    refine WL.q rfl (r_assign rfl) ?_
    refine WL.nil ?_
    refine WC.condF rfl ?_
    refine WC.seq<|WC.region ?_
    refine WL.q rfl (r_cmp (r_eql rfl rfl) (beqF (q23))) ?_
    refine WL.q rfl (r_assign rfl) ?_
    refine WL.nil ?_
    refine WC.condF rfl ?_
    refine WC.seq<|WC.region ?_
    refine WL.q rfl (r_cmp (r_eql rfl rfl) (beqF (q24))) ?_
    refine WL.q rfl (r_assign rfl) ?_
    refine WL.nil ?_
    refine WC.condF rfl ?_
    refine WC.seq<|WC.region ?_
    refine WL.q rfl (r_cmp (r_eql rfl rfl) (beqF (q25))) ?_
    refine WL.q rfl (r_assign rfl) ?_
    refine WL.nil ?_
    refine WC.condF rfl ?_
    refine WC.seq<|WC.region ?_
    refine WL.q rfl (r_cmp (r_eql rfl rfl) (beqF (q26))) ?_
    refine WL.q rfl (r_assign rfl) ?_
    refine WL.nil ?_
    refine WC.condF rfl ?_
    refine WC.seq<|WC.region ?_
    refine WL.q rfl (r_cmp (r_eql rfl rfl) (beqF (q27))) ?_
    refine WL.q rfl (r_assign rfl) ?_
    refine WL.nil ?_
    refine WC.condF rfl ?_
    refine WC.seq<|WC.region ?_
    refine WL.q rfl (r_cmp (r_eql rfl rfl) (beqF (q28))) ?_
    refine WL.q rfl (r_assign rfl) ?_
    refine WL.nil ?_
    refine WC.condF rfl ?_
    refine WC.seq<|WC.region ?_
    refine WL.q rfl (r_cmp (r_eql rfl rfl) (beqF (q29))) ?_
    refine WL.q rfl (r_assign rfl) ?_
    refine WL.nil ?_
    refine WC.condF rfl ?_
    refine WC.seq<|WC.region ?_
    refine WL.q rfl (r_cmp (r_eql rfl rfl) (beqF (q30))) ?_
    refine WL.q rfl (r_assign rfl) ?_
    refine WL.nil ?_
    refine WC.condF rfl ?_
    refine WC.skip ?_
    refine WC.seq<|WC.block ?_
    refine WC.seq<|WC.region ?_
    refine WL.q rfl (r_move rfl) ?_
    refine WL.q rfl (r_cmp (r_geq rfl rfl) (decide_eq_true (by(omega)))) ?_
    refine WL.q rfl (r_move rfl) ?_
    refine WL.qg rfl rfl rfl rfl (r_move rfl) ?_
    refine WL.qg rfl rfl rfl rfl (r_cmp (r_lss rfl rfl) (decide_eq_false (by(omega)))) ?_
    refine WL.q rfl (r_pick rfl rfl rfl) ?_
    refine WL.q rfl (r_assign rfl) ?_
    refine WL.nil ?_
    refine WC.condF rfl ?_
    refine WC.seq<|WC.region ?_
    refine WL.q rfl (r_move rfl) ?_
    refine WL.q rfl (r_cmp (r_geq rfl rfl) (decide_eq_false (by(omega)))) ?_
    refine WL.q rfl (r_move rfl) ?_
    refine WL.sk rfl rfl rfl rfl rfl ?_
    refine WL.sk rfl rfl rfl rfl rfl ?_
    refine WL.q rfl (r_pick rfl rfl rfl) ?_
    refine WL.q rfl (r_assign rfl) ?_
    refine WL.nil ?_
    refine WC.condF rfl ?_
    refine WC.seq<|WC.region ?_
    refine WL.q rfl (r_move rfl) ?_
    refine WL.q rfl (r_cmp (r_geq rfl rfl) (decide_eq_true (by(omega)))) ?_
    refine WL.q rfl (r_move rfl) ?_
    refine WL.qg rfl rfl rfl rfl (r_move rfl) ?_
    refine WL.qg rfl rfl rfl rfl (r_cmp (r_lss rfl rfl) (decide_eq_false (by(omega)))) ?_
    refine WL.q rfl (r_pick rfl rfl rfl) ?_
    refine WL.q rfl (r_assign rfl) ?_
    refine WL.nil ?_
    refine WC.condF rfl ?_
    refine WC.seq<|WC.region ?_
    refine WL.q rfl (r_move rfl) ?_
    refine WL.q rfl (r_cmp (r_geq rfl rfl) (decide_eq_true (by(omega)))) ?_
    refine WL.q rfl (r_move rfl) ?_
    refine WL.qg rfl rfl rfl rfl (r_move rfl) ?_
    refine WL.qg rfl rfl rfl rfl (r_cmp (r_lss rfl rfl) (decide_eq_true (by(omega)))) ?_
    refine WL.q rfl (r_pick rfl rfl rfl) ?_
    refine WL.q rfl (r_assign rfl) ?_
    refine WL.nil ?_
    refine WC.condT rfl ?_
    refine WC.seq<|WC.region ?_
    refine WL.q rfl (r_move rfl) ?_
    refine WL.l rfl (l_do body_83 rfl (rfixarray_ok h0 h1)) fun v2 w2 hh=>?_
    obtain⟨rfl,e2⟩:=hh
    refine WL.q rfl (r_cvInt cv_5_94 rfl) ?_
    refine WL.q rfl (r_bld (cs:=[_,_,_,_]) bld_96 rfl rfl) ?_
    replace hb1:=hb1.mono e2
    refine WL.l0 (l_storeW sz_96 rfl rfl (by first|rfl|assumption|(simp[*];done)|simp[Value.oneCell', *]) (by first|rfl|simp[*]) hb1 (by first|rfl|simp[*])) fun _ w3 hh=>?_
    obtain⟨hb1,e3,hz3⟩:=hh
    refine WL.nil ?_
    refine WC.ret ?_
    replace he:=((he.then e1).then e2).then e3
    exact finC rfl hb1 agg_96 ⟨⟨_,_,by rw[qt]⟩,he.weaken fun b hb _=>hb⟩
  rcases Decidable.em (224≤z)with r4|r4
  · have qt:tyI z=8:=(by unfold tyI;repeat (first|rw[if_pos (by omega)]|rw[if_neg (by omega)]))
    refine doesR Tryz.func57 rfl rfl rfl ?_
    have he:Evo (fun b=>b<w.heap.size) w w:=Evo.refl w
    refine WC.seq<|WC.region ?_
    have hs1:=he.size
    refine WL.l rfl (l_alloc zt_96 rfl) fun _ w1 hh=>?_
    obtain⟨rfl,hb1,e1⟩:=hh
    refine WL.nil ?_
    refine WC.seq<|WC.seq<|WC.region ?_
    refine WL.q rfl (r_move rfl) ?_
    refine WL.nil ?_
    refine WC.block ?_
    refine WC.seq<|WC.region ?_
    refine WL.q rfl (r_cmp (r_eql rfl rfl) (beqF (q0))) ?_
    refine WL.q rfl (r_assign rfl) ?_
    refine WL.nil ?_
    refine WC.condF rfl ?_
    refine WC.seq<|WC.region ?_
    refine WL.q rfl (r_cmp (r_eql rfl rfl) (beqF (q1))) ?_
    refine WL.q rfl (r_assign rfl) ?_
    refine WL.nil ?_
    refine WC.condF rfl ?_
    refine WC.seq<|WC.region ?_
    refine WL.q rfl (r_cmp (r_eql rfl rfl) (beqF (q2))) ?_
    refine WL.q rfl (r_assign rfl) ?_
    refine WL.nil ?_
    refine WC.condF rfl ?_
    refine WC.seq<|WC.region ?_
    refine WL.q rfl (r_cmp (r_eql rfl rfl) (beqF (q3))) ?_
    refine WL.q rfl (r_assign rfl) ?_
    refine WL.nil ?_
    refine WC.condF rfl ?_
    refine WC.seq<|WC.region ?_
    refine WL.q rfl (r_cmp (r_eql rfl rfl) (beqF (q4))) ?_
    refine WL.q rfl (r_assign rfl) ?_
    refine WL.nil ?_
    refine WC.condF rfl ?_
    refine WC.seq<|WC.region ?_
    refine WL.q rfl (r_cmp (r_eql rfl rfl) (beqF (q5))) ?_
    refine WL.q rfl (r_assign rfl) ?_
    refine WL.nil ?_
    refine WC.condF rfl ?_
    refine WC.seq<|WC.region ?_
    refine WL.q rfl (r_cmp (r_eql rfl rfl) (beqF (q6))) ?_
    refine WL.q rfl (r_assign rfl) ?_
    refine WL.nil ?_
    refine WC.condF rfl ?_
    refine WC.seq<|WC.region ?_
    refine WL.q rfl (r_cmp (r_eql rfl rfl) (beqF (q7))) ?_
    refine WL.q rfl (r_assign rfl) ?_
    refine WL.nil ?_
    refine WC.condF rfl ?_
    refine WC.seq<|WC.region ?_
    refine WL.q rfl (r_cmp (r_eql rfl rfl) (beqF (q8))) ?_
    refine WL.q rfl (r_assign rfl) ?_
    refine WL.nil ?_
    refine WC.condF rfl ?_
    refine WC.seq<|WC.region ?_
    refine WL.q rfl (r_cmp (r_eql rfl rfl) (beqF (q9))) ?_
    refine WL.q rfl (r_assign rfl) ?_
    refine WL.nil ?_
    refine WC.condF rfl ?_
    refine WC.seq<|WC.region ?_
    refine WL.q rfl (r_cmp (r_eql rfl rfl) (beqF (q10))) ?_
    refine WL.q rfl (r_assign rfl) ?_
    refine WL.nil ?_
    refine WC.condF rfl ?_
    refine WC.seq<|WC.region ?_
    refine WL.q rfl (r_cmp (r_eql rfl rfl) (beqF (q11))) ?_
    refine WL.q rfl (r_assign rfl) ?_
    refine WL.nil ?_
    refine WC.condF rfl ?_
    refine WC.seq<|WC.region ?_
    refine WL.q rfl (r_cmp (r_eql rfl rfl) (beqF (q12))) ?_
    refine WL.q rfl (r_assign rfl) ?_
    refine WL.nil ?_
    refine WC.condF rfl ?_
    refine WC.seq<|WC.region ?_
    refine WL.q rfl (r_cmp (r_eql rfl rfl) (beqF (q13))) ?_
    refine WL.q rfl (r_assign rfl) ?_
    refine WL.nil ?_
    refine WC.condF rfl ?_
    refine WC.seq<|WC.region ?_
    refine WL.q rfl (r_cmp (r_eql rfl rfl) (beqF (q14))) ?_
    refine WL.q rfl (r_assign rfl) ?_
    refine WL.nil ?_
    refine WC.condF rfl ?_
    refine WC.seq<|WC.region ?_
    refine WL.q rfl (r_cmp (r_eql rfl rfl) (beqF (q15))) ?_
    refine WL.q rfl (r_assign rfl) ?_
    refine WL.nil ?_
    refine WC.condF rfl ?_
    refine WC.seq<|WC.region ?_
    refine WL.q rfl (r_cmp (r_eql rfl rfl) (beqF (q16))) ?_
    refine WL.q rfl (r_assign rfl) ?_
    refine WL.nil ?_
    refine WC.condF rfl ?_
    refine WC.seq<|WC.region ?_
    refine WL.q rfl (r_cmp (r_eql rfl rfl) (beqF (q17))) ?_
    refine WL.q rfl (r_assign rfl) ?_
    refine WL.nil ?_
    refine WC.condF rfl ?_
    refine WC.seq<|WC.region ?_
    refine WL.q rfl (r_cmp (r_eql rfl rfl) (beqF (q18))) ?_
    refine WL.q rfl (r_assign rfl) ?_
    refine WL.nil ?_
    refine WC.condF rfl ?_
    refine WC.seq<|WC.region ?_
    refine WL.q rfl (r_cmp (r_eql rfl rfl) (beqF (q19))) ?_
    refine WL.q rfl (r_assign rfl) ?_
    refine WL.nil ?_
    refine WC.condF rfl ?_
    refine WC.seq<|WC.region ?_
    refine WL.q rfl (r_cmp (r_eql rfl rfl) (beqF (q20))) ?_
    refine WL.q rfl (r_assign rfl) ?_
    refine WL.nil ?_
    refine WC.condF rfl ?_
    refine WC.seq<|WC.region ?_
    refine WL.q rfl (r_cmp (r_eql rfl rfl) (beqF (q21))) ?_
    refine WL.q rfl (r_assign rfl) ?_
    refine WL.nil ?_
    refine WC.condF rfl ?_
    refine WC.seq<|WC.region ?_
    refine WL.q rfl (r_cmp (r_eql rfl rfl) (beqF (q22))) ?_
    refine WL.q rfl (r_assign rfl) ?_
    refine WL.nil ?_
    refine WC.condF rfl ?_
    refine WC.seq<|WC.region ?_
    refine WL.q rfl (r_cmp (r_eql rfl rfl) (beqF (q23))) ?_
    refine WL.q rfl (r_assign rfl) ?_
    refine WL.nil ?_
    refine WC.condF rfl ?_
    refine WC.seq<|WC.region ?_
    refine WL.q rfl (r_cmp (r_eql rfl rfl) (beqF (q24))) ?_
    refine WL.q rfl (r_assign rfl) ?_
    refine WL.nil ?_
    refine WC.condF rfl ?_
    refine WC.seq<|WC.region ?_
    refine WL.q rfl (r_cmp (r_eql rfl rfl) (beqF (q25))) ?_
    refine WL.q rfl (r_assign rfl) ?_
    refine WL.nil ?_
    refine WC.condF rfl ?_
    refine WC.seq<|WC.region ?_
    refine WL.q rfl (r_cmp (r_eql rfl rfl) (beqF (q26))) ?_
    refine WL.q rfl (r_assign rfl) ?_
    refine WL.nil ?_
    refine WC.condF rfl ?_
    refine WC.seq<|WC.region ?_
    refine WL.q rfl (r_cmp (r_eql rfl rfl) (beqF (q27))) ?_
    refine WL.q rfl (r_assign rfl) ?_
    refine WL.nil ?_
    refine WC.condF rfl ?_
    refine WC.seq<|WC.region ?_
    refine WL.q rfl (r_cmp (r_eql rfl rfl) (beqF (q28))) ?_
    refine WL.q rfl (r_assign rfl) ?_
    refine WL.nil ?_
    refine WC.condF rfl ?_
    refine WC.seq<|WC.region ?_
    refine WL.q rfl (r_cmp (r_eql rfl rfl) (beqF (q29))) ?_
    refine WL.q rfl (r_assign rfl) ?_
    refine WL.nil ?_
    refine WC.condF rfl ?_
    refine WC.seq<|WC.region ?_
    refine WL.q rfl (r_cmp (r_eql rfl rfl) (beqF (q30))) ?_
    refine WL.q rfl (r_assign rfl) ?_
    refine WL.nil ?_
    refine WC.condF rfl ?_
    refine WC.skip ?_
    refine WC.seq<|WC.block ?_
    refine WC.seq<|WC.region ?_
    refine WL.q rfl (r_move rfl) ?_
    refine WL.q rfl (r_cmp (r_geq rfl rfl) (decide_eq_true (by(omega)))) ?_
    refine WL.q rfl (r_move rfl) ?_
    refine WL.qg rfl rfl rfl rfl (r_move rfl) ?_
    refine WL.qg rfl rfl rfl rfl (r_cmp (r_lss rfl rfl) (decide_eq_false (by(omega)))) ?_
    refine WL.q rfl (r_pick rfl rfl rfl) ?_
    refine WL.q rfl (r_assign rfl) ?_
    refine WL.nil ?_
    refine WC.condF rfl ?_
    refine WC.seq<|WC.region ?_
    refine WL.q rfl (r_move rfl) ?_
    refine WL.q rfl (r_cmp (r_geq rfl rfl) (decide_eq_true (by(omega)))) ?_
    refine WL.q rfl (r_move rfl) ?_
    refine WL.qg rfl rfl rfl rfl (r_move rfl) ?_
    refine WL.qg rfl rfl rfl rfl (r_cmp (r_lss rfl rfl) (decide_eq_false (by(omega)))) ?_
    refine WL.q rfl (r_pick rfl rfl rfl) ?_
    refine WL.q rfl (r_assign rfl) ?_
    refine WL.nil ?_
    refine WC.condF rfl ?_
    refine WC.seq<|WC.region ?_
    refine WL.q rfl (r_move rfl) ?_
    refine WL.q rfl (r_cmp (r_geq rfl rfl) (decide_eq_true (by(omega)))) ?_
    refine WL.q rfl (r_move rfl) ?_
    refine WL.qg rfl rfl rfl rfl (r_move rfl) ?_
    refine WL.qg rfl rfl rfl rfl (r_cmp (r_lss rfl rfl) (decide_eq_false (by(omega)))) ?_
    refine WL.q rfl (r_pick rfl rfl rfl) ?_
    refine WL.q rfl (r_assign rfl) ?_
    refine WL.nil ?_
    refine WC.condF rfl ?_
    refine WC.seq<|WC.region ?_
    refine WL.q rfl (r_move rfl) ?_
    refine WL.q rfl (r_cmp (r_geq rfl rfl) (decide_eq_true (by(omega)))) ?_
    refine WL.q rfl (r_move rfl) ?_
    refine WL.qg rfl rfl rfl rfl (r_move rfl) ?_
    refine WL.qg rfl rfl rfl rfl (r_cmp (r_lss rfl rfl) (decide_eq_false (by(omega)))) ?_
    refine WL.q rfl (r_pick rfl rfl rfl) ?_
    refine WL.q rfl (r_assign rfl) ?_
    refine WL.nil ?_
    refine WC.condF rfl ?_
    refine WC.seq<|WC.region ?_
    refine WL.q rfl (r_move rfl) ?_
    refine WL.q rfl (r_cmp (r_geq rfl rfl) (decide_eq_true (by(omega)))) ?_
    refine WL.q rfl (r_move rfl) ?_
    refine WL.qg rfl rfl rfl rfl (r_move rfl) ?_
    refine WL.qg rfl rfl rfl rfl (r_cvInt cv_5_143 rfl) ?_
    refine WL.qg rfl rfl rfl rfl (r_cmp (r_lss rfl rfl) (decide_eq_true (by(rw[IntKind.wrap_u16];omega)))) ?_
    refine WL.q rfl (r_pick rfl rfl rfl) ?_
    refine WL.q rfl (r_assign rfl) ?_
    refine WL.nil ?_
    refine WC.condT rfl ?_
    refine WC.seq<|WC.region ?_
    refine WL.q rfl (r_bld (cs:=[_,_,_,_]) bld_96 rfl rfl) ?_
    refine WL.l0 (l_storeW sz_96 rfl rfl (by first|rfl|assumption|(simp[*];done)|simp[Value.oneCell', *]) (by first|rfl|simp[*]) hb1 (by first|rfl|simp[*])) fun _ w2 hh=>?_
    obtain⟨hb1,e2,hz2⟩:=hh
    refine WL.nil ?_
    refine WC.ret ?_
    replace he:=he.then (e1.then e2)
    exact finC rfl hb1 agg_96 ⟨⟨_,_,by rw[qt]⟩,he.weaken fun b hb _=>hb⟩
  have qt:tyI z=0:=(by unfold tyI;repeat (first|rw[if_pos (by omega)]|rw[if_neg (by omega)]))
  refine doesR Tryz.func57 rfl rfl rfl ?_
  have he:Evo (fun b=>b<w.heap.size) w w:=Evo.refl w
  refine WC.seq<|WC.region ?_
  have hs1:=he.size
  refine WL.l rfl (l_alloc zt_96 rfl) fun _ w1 hh=>?_
  obtain⟨rfl,hb1,e1⟩:=hh
  refine WL.nil ?_
  refine WC.seq<|WC.seq<|WC.region ?_
  refine WL.q rfl (r_move rfl) ?_
  refine WL.nil ?_
  refine WC.block ?_
  refine WC.seq<|WC.region ?_
  refine WL.q rfl (r_cmp (r_eql rfl rfl) (beqF (q0))) ?_
  refine WL.q rfl (r_assign rfl) ?_
  refine WL.nil ?_
  refine WC.condF rfl ?_
  refine WC.seq<|WC.region ?_
  refine WL.q rfl (r_cmp (r_eql rfl rfl) (beqF (q1))) ?_
  refine WL.q rfl (r_assign rfl) ?_
  refine WL.nil ?_
  refine WC.condF rfl ?_
  refine WC.seq<|WC.region ?_
  refine WL.q rfl (r_cmp (r_eql rfl rfl) (beqF (q2))) ?_
  refine WL.q rfl (r_assign rfl) ?_
  refine WL.nil ?_
  refine WC.condF rfl ?_
  refine WC.seq<|WC.region ?_
  refine WL.q rfl (r_cmp (r_eql rfl rfl) (beqF (q3))) ?_
  refine WL.q rfl (r_assign rfl) ?_
  refine WL.nil ?_
  refine WC.condF rfl ?_
  refine WC.seq<|WC.region ?_
  refine WL.q rfl (r_cmp (r_eql rfl rfl) (beqF (q4))) ?_
  refine WL.q rfl (r_assign rfl) ?_
  refine WL.nil ?_
  refine WC.condF rfl ?_
  refine WC.seq<|WC.region ?_
  refine WL.q rfl (r_cmp (r_eql rfl rfl) (beqF (q5))) ?_
  refine WL.q rfl (r_assign rfl) ?_
  refine WL.nil ?_
  refine WC.condF rfl ?_
  refine WC.seq<|WC.region ?_
  refine WL.q rfl (r_cmp (r_eql rfl rfl) (beqF (q6))) ?_
  refine WL.q rfl (r_assign rfl) ?_
  refine WL.nil ?_
  refine WC.condF rfl ?_
  refine WC.seq<|WC.region ?_
  refine WL.q rfl (r_cmp (r_eql rfl rfl) (beqF (q7))) ?_
  refine WL.q rfl (r_assign rfl) ?_
  refine WL.nil ?_
  refine WC.condF rfl ?_
  refine WC.seq<|WC.region ?_
  refine WL.q rfl (r_cmp (r_eql rfl rfl) (beqF (q8))) ?_
  refine WL.q rfl (r_assign rfl) ?_
  refine WL.nil ?_
  refine WC.condF rfl ?_
  refine WC.seq<|WC.region ?_
  refine WL.q rfl (r_cmp (r_eql rfl rfl) (beqF (q9))) ?_
  refine WL.q rfl (r_assign rfl) ?_
  refine WL.nil ?_
  refine WC.condF rfl ?_
  refine WC.seq<|WC.region ?_
  refine WL.q rfl (r_cmp (r_eql rfl rfl) (beqF (q10))) ?_
  refine WL.q rfl (r_assign rfl) ?_
  refine WL.nil ?_
  refine WC.condF rfl ?_
  refine WC.seq<|WC.region ?_
  refine WL.q rfl (r_cmp (r_eql rfl rfl) (beqF (q11))) ?_
  refine WL.q rfl (r_assign rfl) ?_
  refine WL.nil ?_
  refine WC.condF rfl ?_
  refine WC.seq<|WC.region ?_
  refine WL.q rfl (r_cmp (r_eql rfl rfl) (beqF (q12))) ?_
  refine WL.q rfl (r_assign rfl) ?_
  refine WL.nil ?_
  refine WC.condF rfl ?_
  refine WC.seq<|WC.region ?_
  refine WL.q rfl (r_cmp (r_eql rfl rfl) (beqF (q13))) ?_
  refine WL.q rfl (r_assign rfl) ?_
  refine WL.nil ?_
  refine WC.condF rfl ?_
  refine WC.seq<|WC.region ?_
  refine WL.q rfl (r_cmp (r_eql rfl rfl) (beqF (q14))) ?_
  refine WL.q rfl (r_assign rfl) ?_
  refine WL.nil ?_
  refine WC.condF rfl ?_
  refine WC.seq<|WC.region ?_
  refine WL.q rfl (r_cmp (r_eql rfl rfl) (beqF (q15))) ?_
  refine WL.q rfl (r_assign rfl) ?_
  refine WL.nil ?_
  refine WC.condF rfl ?_
  refine WC.seq<|WC.region ?_
  refine WL.q rfl (r_cmp (r_eql rfl rfl) (beqF (q16))) ?_
  refine WL.q rfl (r_assign rfl) ?_
  refine WL.nil ?_
  refine WC.condF rfl ?_
  refine WC.seq<|WC.region ?_
  refine WL.q rfl (r_cmp (r_eql rfl rfl) (beqF (q17))) ?_
  refine WL.q rfl (r_assign rfl) ?_
  refine WL.nil ?_
  refine WC.condF rfl ?_
  refine WC.seq<|WC.region ?_
  refine WL.q rfl (r_cmp (r_eql rfl rfl) (beqF (q18))) ?_
  refine WL.q rfl (r_assign rfl) ?_
  refine WL.nil ?_
  refine WC.condF rfl ?_
  refine WC.seq<|WC.region ?_
  refine WL.q rfl (r_cmp (r_eql rfl rfl) (beqF (q19))) ?_
  refine WL.q rfl (r_assign rfl) ?_
  refine WL.nil ?_
  refine WC.condF rfl ?_
  refine WC.seq<|WC.region ?_
  refine WL.q rfl (r_cmp (r_eql rfl rfl) (beqF (q20))) ?_
  refine WL.q rfl (r_assign rfl) ?_
  refine WL.nil ?_
  refine WC.condF rfl ?_
  refine WC.seq<|WC.region ?_
  refine WL.q rfl (r_cmp (r_eql rfl rfl) (beqF (q21))) ?_
  refine WL.q rfl (r_assign rfl) ?_
  refine WL.nil ?_
  refine WC.condF rfl ?_
  refine WC.seq<|WC.region ?_
  refine WL.q rfl (r_cmp (r_eql rfl rfl) (beqF (q22))) ?_
  refine WL.q rfl (r_assign rfl) ?_
  refine WL.nil ?_
  refine WC.condF rfl ?_
  refine WC.seq<|WC.region ?_
  refine WL.q rfl (r_cmp (r_eql rfl rfl) (beqF (q23))) ?_
  refine WL.q rfl (r_assign rfl) ?_
  refine WL.nil ?_
  refine WC.condF rfl ?_
  refine WC.seq<|WC.region ?_
  refine WL.q rfl (r_cmp (r_eql rfl rfl) (beqF (q24))) ?_
  refine WL.q rfl (r_assign rfl) ?_
  refine WL.nil ?_
  refine WC.condF rfl ?_
  refine WC.seq<|WC.region ?_
  refine WL.q rfl (r_cmp (r_eql rfl rfl) (beqF (q25))) ?_
  refine WL.q rfl (r_assign rfl) ?_
  refine WL.nil ?_
  refine WC.condF rfl ?_
  refine WC.seq<|WC.region ?_
  refine WL.q rfl (r_cmp (r_eql rfl rfl) (beqF (q26))) ?_
  refine WL.q rfl (r_assign rfl) ?_
  refine WL.nil ?_
  refine WC.condF rfl ?_
  refine WC.seq<|WC.region ?_
  refine WL.q rfl (r_cmp (r_eql rfl rfl) (beqF (q27))) ?_
  refine WL.q rfl (r_assign rfl) ?_
  refine WL.nil ?_
  refine WC.condF rfl ?_
  refine WC.seq<|WC.region ?_
  refine WL.q rfl (r_cmp (r_eql rfl rfl) (beqF (q28))) ?_
  refine WL.q rfl (r_assign rfl) ?_
  refine WL.nil ?_
  refine WC.condF rfl ?_
  refine WC.seq<|WC.region ?_
  refine WL.q rfl (r_cmp (r_eql rfl rfl) (beqF (q29))) ?_
  refine WL.q rfl (r_assign rfl) ?_
  refine WL.nil ?_
  refine WC.condF rfl ?_
  refine WC.seq<|WC.region ?_
  refine WL.q rfl (r_cmp (r_eql rfl rfl) (beqF (q30))) ?_
  refine WL.q rfl (r_assign rfl) ?_
  refine WL.nil ?_
  refine WC.condF rfl ?_
  refine WC.skip ?_
  refine WC.seq<|WC.block ?_
  refine WC.seq<|WC.region ?_
  refine WL.q rfl (r_move rfl) ?_
  refine WL.q rfl (r_cmp (r_geq rfl rfl) (decide_eq_true (by(omega)))) ?_
  refine WL.q rfl (r_move rfl) ?_
  refine WL.qg rfl rfl rfl rfl (r_move rfl) ?_
  refine WL.qg rfl rfl rfl rfl (r_cmp (r_lss rfl rfl) (decide_eq_false (by(omega)))) ?_
  refine WL.q rfl (r_pick rfl rfl rfl) ?_
  refine WL.q rfl (r_assign rfl) ?_
  refine WL.nil ?_
  refine WC.condF rfl ?_
  refine WC.seq<|WC.region ?_
  refine WL.q rfl (r_move rfl) ?_
  refine WL.q rfl (r_cmp (r_geq rfl rfl) (decide_eq_true (by(omega)))) ?_
  refine WL.q rfl (r_move rfl) ?_
  refine WL.qg rfl rfl rfl rfl (r_move rfl) ?_
  refine WL.qg rfl rfl rfl rfl (r_cmp (r_lss rfl rfl) (decide_eq_false (by(omega)))) ?_
  refine WL.q rfl (r_pick rfl rfl rfl) ?_
  refine WL.q rfl (r_assign rfl) ?_
  refine WL.nil ?_
  refine WC.condF rfl ?_
  refine WC.seq<|WC.region ?_
  refine WL.q rfl (r_move rfl) ?_
  refine WL.q rfl (r_cmp (r_geq rfl rfl) (decide_eq_true (by(omega)))) ?_
  refine WL.q rfl (r_move rfl) ?_
  refine WL.qg rfl rfl rfl rfl (r_move rfl) ?_
  refine WL.qg rfl rfl rfl rfl (r_cmp (r_lss rfl rfl) (decide_eq_false (by(omega)))) ?_
  refine WL.q rfl (r_pick rfl rfl rfl) ?_
  refine WL.q rfl (r_assign rfl) ?_
  refine WL.nil ?_
  refine WC.condF rfl ?_
  refine WC.seq<|WC.region ?_
  refine WL.q rfl (r_move rfl) ?_
  refine WL.q rfl (r_cmp (r_geq rfl rfl) (decide_eq_true (by(omega)))) ?_
  refine WL.q rfl (r_move rfl) ?_
  refine WL.qg rfl rfl rfl rfl (r_move rfl) ?_
  refine WL.qg rfl rfl rfl rfl (r_cmp (r_lss rfl rfl) (decide_eq_false (by(omega)))) ?_
  refine WL.q rfl (r_pick rfl rfl rfl) ?_
  refine WL.q rfl (r_assign rfl) ?_
  refine WL.nil ?_
  refine WC.condF rfl ?_
  refine WC.seq<|WC.region ?_
  refine WL.q rfl (r_move rfl) ?_
  refine WL.q rfl (r_cmp (r_geq rfl rfl) (decide_eq_false (by(omega)))) ?_
  refine WL.q rfl (r_move rfl) ?_
  refine WL.sk rfl rfl rfl rfl rfl ?_
  refine WL.sk rfl rfl rfl rfl rfl ?_
  refine WL.sk rfl rfl rfl rfl rfl ?_
  refine WL.q rfl (r_pick rfl rfl rfl) ?_
  refine WL.q rfl (r_assign rfl) ?_
  refine WL.nil ?_
  refine WC.condF rfl ?_
  refine WC.skip ?_
  refine WC.seq<|WC.region ?_
  refine WL.q rfl (r_bld (cs:=[_,_,_,_]) bld_96 rfl rfl) ?_
  refine WL.l0 (l_storeW sz_96 rfl rfl (by first|rfl|assumption|(simp[*];done)|simp[Value.oneCell', *]) (by first|rfl|simp[*]) hb1 (by first|rfl|simp[*])) fun _ w2 hh=>?_
  obtain⟨hb1,e2,hz2⟩:=hh
  refine WL.nil ?_
  refine WC.ret ?_
  replace he:=he.then (e1.then e2)
  exact finC rfl hb1 agg_96 ⟨⟨_,_,by rw[qt]⟩,he.weaken fun b hb _=>hb⟩
theorem gbs_ok{z:Int}{w:World}(h0:0≤z)(h1:z<256):
    Does Tryz.prog 40 [.int .u8 z] w fun r w'=>(∃a b,r= .agg #[.int .u8 a,.int .i8 b,.int .u8 (tyI z),.int .u8 0])∧Ext w w':=by
  refine doesR Tryz.func40 rfl rfl rfl ?_
  have he:Evo (fun b=>b<w.heap.size) w w:=Evo.refl w
  refine WC.seq<|WC.region ?_
  have hs1:=he.size
  refine WL.l rfl (l_alloc zt_96 rfl) fun _ w1 hh=>?_
  obtain⟨rfl,hb1,e1⟩:=hh
  refine WL.nil ?_
  refine WC.seq<|WC.region ?_
  refine WL.q rfl (r_move rfl) ?_
  refine WL.l rfl (l_do body_57 rfl (cbs_ok h0 h1)) fun v2 w2 hh=>?_
  obtain⟨⟨a,b,rfl⟩,e2⟩:=hh
  replace hb1:=hb1.mono e2
  refine WL.l0 (l_storeW sz_96 rfl rfl (by first|rfl|assumption|(simp[*];done)|simp[Value.oneCell', *]) (by first|rfl|simp[*]) hb1 (by first|rfl|simp[*])) fun _ w3 hh=>?_
  obtain⟨hb1,e3,hz3⟩:=hh
  refine WL.nil ?_
  refine WC.ret ?_
  replace he:=((he.then e1).then e2).then e3
  exact finC rfl hb1 agg_96 ⟨⟨a,b,rfl⟩,he.weaken fun b hb _=>hb⟩
theorem getType_ok{z:Int}{w:World}(h0:0≤z)(h1:z<256):
    Does Tryz.prog 34 [.int .u8 z] w fun r w'=>r= .int .u8 (tyI z)∧Ext w w':=by
  refine does1 Tryz.func34 rfl rfl rfl ?_
  have he:Evo (fun _=>True) w w:=Evo.refl w
  refine WC.seq<|WC.region ?_
  refine WL.q rfl (r_assign rfl) ?_
  refine WL.nil ?_
  refine WC.seq<|WC.region ?_
  refine WL.q rfl (r_move rfl) ?_
  refine WL.l rfl (l_do body_40 rfl (gbs_ok h0 h1)) fun v1 w1 hh=>?_
  obtain⟨⟨a,b,rfl⟩,e1⟩:=hh
  refine WL.q rfl (r_field1 fld_96_2 rfl rfl) ?_
  refine WL.q rfl (r_assign rfl) ?_
  refine WL.nil ?_
  refine WC.ret ?_
  replace he:=he.then e1
  exact fin1 rfl ⟨rfl,he⟩
end Go.Proofs.LL
