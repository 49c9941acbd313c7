/- Contracts of functions of impl, spec and laws. Conditions: those that each theorem states. -/
import Derived.Test.YtdgbmbjkbmpcbaaGreatDoorW13
set_option linter.all false
set_option maxRecDepth 20000
namespace Go.Proofs.LL
open Go Go.Proofs Go.RowKit
set_option maxHeartbeats 4000000
attribute [local irreducible] RunOp WL WC WDL WT WX
theorem zR8_1{A:Prop}(h:A:=by
 replace hR:=(hR.mono hE).mono e5
 replace he:=(he.then hE).then e5
 exact fin1 rfl ⟨rfl,⟨_,hs4,hab,hK⟩,hR,he⟩):A:=h
theorem zR8_2{A:Prop}(h:A:=by
 rintro v6 w6 ⟨rfl,e6⟩
 refine q ?_
 replace hK:=((hK.mono (Ext.drew _)).mono e5).mono e6
 refine WL.l0 (l_fill Fo.h rfl (by omega) rfl rfl hK (by simp[hi]<;>omega)) ?_
 rintro _ w7 ⟨hK,e7⟩
 refine q ?_
 exact⟨i+1,sb,sb,⟨hK,(((((hE.then (Ext.drew _)).then e5).then e6).then e7))⟩,by omega⟩):A:=h
theorem zR8_3{A:Prop}(h:A:=by
 refine q ?_
 refine WL.l0 (l_fill Fo.h rfl (by omega) rfl rfl hK (by simp[hi];omega)) ?_
 rintro _ w5 ⟨hK,e5⟩
 refine q ?_
 exact⟨i+1,sb,sb,⟨hK,(hE.then e5)⟩,by omega⟩):A:=h
theorem zR8_4{A:Prop}(h:A:=by
 exact(At_pos (by omega) (by omega)).imp fun u w' hh=>⟨by rw[hh.1];exact tm_eq (by omega) (by omega),hh.2⟩):A:=h
theorem zR8_5{A:Prop}(h:A:=by
 rintro v3 w3 ⟨rfl,e3⟩
 refine q ?_
 replace hR:=hR.mono e3
 exact fin2 rfl rfl ⟨rfl,hR,ch⟩):A:=h
section
variable {ρ:Fr} {w:World} {ty:TypeId}
theorem l_f32from{args:Array Operand}{ts:Array TypeId}{n:Int}(ha:ovs ρ args.toList=some [.int .u32 n]):LoudOp TP (.call ⟨.value (.func 193),args,ts⟩) ty ρ w (fun u w'=>u= .float .f32 n.toNat∧Ext w w'):=by
 intro N D a dst pos af g hh next Q hn
 refine l_ext (e:=Extern.MathFloatBits.float32frombits) Tryz.func193 (by kernel_rfl) rfl (by kernel_rfl) (by kernel_rfl) ha (v:= .float .f32 n.toNat) (fun w=>rfl) N D a dst pos af g hh next Q fun u w' h=>hn u w' ⟨h.1,h.2▸Ext.refl _⟩
theorem l_f64from{args:Array Operand}{ts:Array TypeId}{n:Int}(ha:ovs ρ args.toList=some [.int .u64 n]):LoudOp TP (.call ⟨.value (.func 194),args,ts⟩) ty ρ w (fun u w'=>u= .float .f64 n.toNat∧Ext w w'):=by
 intro N D a dst pos af g hh next Q hn
 refine l_ext (e:=Extern.MathFloatBits.float64frombits) Tryz.func194 (by kernel_rfl) rfl (by kernel_rfl) (by kernel_rfl) ha (v:= .float .f64 n.toNat) (fun w=>rfl) N D a dst pos af g hh next Q fun u w' h=>hn u w' ⟨h.1,h.2▸Ext.refl _⟩
theorem l_f32bits{args:Array Operand}{ts:Array TypeId}{n:Nat}(ha:ovs ρ args.toList=some [.float .f32 n]):LoudOp TP (.call ⟨.value (.func 138),args,ts⟩) ty ρ w (fun u w'=>u= .int .u32 (n:Int)∧Ext w w'):=by
 intro N D a dst pos af g hh next Q hn
 refine l_ext (e:=Extern.MathFloatBits.float32bits) Tryz.func138 (by kernel_rfl) rfl (by kernel_rfl) (by kernel_rfl) ha (v:= .int .u32 (n:Int)) (fun w=>rfl) N D a dst pos af g hh next Q fun u w' h=>hn u w' ⟨h.1,h.2▸Ext.refl _⟩
theorem l_f64bits{args:Array Operand}{ts:Array TypeId}{n:Nat}(ha:ovs ρ args.toList=some [.float .f64 n]):LoudOp TP (.call ⟨.value (.func 139),args,ts⟩) ty ρ w (fun u w'=>u= .int .u64 (n:Int)∧Ext w w'):=by
 intro N D a dst pos af g hh next Q hn
 refine l_ext (e:=Extern.MathFloatBits.float64bits) Tryz.func139 (by kernel_rfl) rfl (by kernel_rfl) (by kernel_rfl) ha (v:= .int .u64 (n:Int)) (fun w=>rfl) N D a dst pos af g hh next Q fun u w' h=>hn u w' ⟨h.1,h.2▸Ext.refl _⟩
end
theorem readFloat_ok{rb:Nat}{a b c d:UInt8}{r:List UInt8}{w:World}(hR:Rd w rb (0x72::a::b::c::d::r)):
  Does TP 108 [.pointer (some ⟨rb,0,none⟩)] w fun u w'=>u= .tuple #[.float .f32 (be [a,b,c,d]),.nilIface]∧Rd w' rb r∧Evo (Nb rb) w w':=by
 refine do2 Tryz.func108 ?_
 refine q ?_
 refine cl rfl (readType_ok hR) ?_
 rintro v1 w1 ⟨rfl,hR,e1⟩
 refine q ?_
 refine cl rfl (ReadUint32_ok hR) ?_
 rintro v2 w2 ⟨rfl,hR,e2⟩
 refine q ?_
 refine WL.l rfl (l_f32from rfl) ?_
 exact zR8_5
theorem readDouble_ok{rb:Nat}{a b c d e f g h:UInt8}{r:List UInt8}{w:World}(hR:Rd w rb (0x82::a::b::c::d::e::f::g::h::r)):
  Does TP 109 [.pointer (some ⟨rb,0,none⟩)] w fun u w'=>u= .tuple #[.float .f64 (be [a,b,c,d,e,f,g,h]),.nilIface]∧Rd w' rb r∧Evo (Nb rb) w w':=by
 refine do2 Tryz.func109 ?_
 refine q ?_
 refine cl rfl (readType_ok hR) ?_
 rintro v1 w1 ⟨rfl,hR,e1⟩
 refine q ?_
 refine cl rfl (ReadUint64_ok hR) ?_
 rintro v2 w2 ⟨rfl,hR,e2⟩
 refine q ?_
 refine WL.l rfl (l_f64from rfl) ?_
 exact zR8_5
theorem arrFloat_ok{rb ab:Nat}{hd r:List UInt8}{ns:List Nat}{w:World}(hab:Blk w ab [.slice none 0 0])(hne:rb<ab)(hpos:0<ns.length)(hh:ArrH hd ns.length (0x72::(ns.flatMap fun m=>bigB m 4)))(hR:Rd w rb (hd++((0x72::(ns.flatMap fun m=>bigB m 4))++r))):
  Does TP 121 [.pointer (some ⟨ab,0,none⟩),.pointer (some ⟨rb,0,none⟩)] w fun u w'=>u= .nilIface∧(∃g,w.heap.size≤g∧Blk w' ab [.slice (some ⟨g,0,none⟩) ns.length ns.length]∧Blk w' g (ns.map fun m=> .float .f32 (m%4294967296)))∧Rd w' rb r∧Evo (fun k=>k≠rb∧k≠ab) w w':=by
 have hle:=hh.le
 have hr0:=hab.lt
 have hl:=flat_length (fun m=>bigB m 4) 4 (fun m=>bigB_length m 4) ns
 refine do1 Tryz.func121 ?_
 have he:Evo (fun k=>k≠rb∧k≠ab) w w:=Evo.refl w
 refine q ?_
 refine cl rfl (readArrayHeader_ok hh hR) ?_
 rintro v1 w1 ⟨rfl,hR,e1⟩
 refine q ?_
 refine cl rfl (readType_ok hR) ?_
 rintro v2 w2 ⟨rfl,hR,e2⟩
 refine q ?_
 refine cl rfl (Next_I (l:=(ns.flatMap fun m=>bigB m 4)) hR (by rw[hl];push_cast;rfl)) ?_
 rintro v3 w3 ⟨v,rfl,hY,hR,e3⟩
 obtain⟨pb,po,cp,rfl,hcp,hA,hD⟩:=hY.open (by omega)
 replace hab:=((hab.mono e1).mono e2).mono e3
 refine q ?_
 refine WL.q rfl (r_sliceh Fo.h rfl rfl rfl (by first|omega|(simp;done)|(simp;omega))) ?_
 refine q ?_
 replace he:=((he.then e1).then e2).then e3
 have hs4:=he.size
 refine WL.l rfl (l_makeB (n:=ns.length) Fo.h rfl rfl rfl rfl rfl (by omega) (by simp only[maxLen];omega)) ?_
 rintro v4 w4 ⟨rfl,hK,e4⟩
 refine q ?_
 replace hR:=hR.mono e4
 replace hab:=hab.mono e4
 replace hY:=hY.mono e4
 replace hD:=hD.mono e4
 replace he:=he.then e4
 refine WC.loop2 (ι:=Nat) [(0,_),(4,_),(8,_),(10,_),(57,_)] (fun i=>[(11,.int .i64 ((i * 4:Nat):Int)),(58,.int .i64 (i:Int))]) (fun i wi=>Blk wi w3.heap.size (fillA (ns.map fun m=> .float .f32 (m%4294967296)) (.float .f32 0) i)∧Evo (fun k=>k≠w3.heap.size) w4 wi) (fun i=>ns.length-i) 0 sb sb (⟨by rw[fillA_zero,List.length_map];exact hK,Evo.refl _⟩) ?_
 intro i wi1 hh;obtain⟨hK,hE⟩:=hh
 rcases Nat.lt_or_ge i ns.length with hi|hi
 ·have hik:i * 4+4≤ns.length * 4:=by rw[← Nat.succ_mul];exact Nat.mul_le_mul_right _ hi
  replace hY:=hY.mono hE
  have hZ:=cut_tail hY hi
  refine q ?_
  replace hR:=hR.mono hE
  replace hab:=hab.mono hE
  replace hD:=hD.mono hE
  refine WC.regionD (tt [0,1,2,3]++ff [4]++tt [5]) (Evo (fun k=>k≠w3.heap.size) _) mixed (by kernel_rfl) (Evo.drew _) ?_
  refine q ?_
  refine WD.q rfl (fun _ hS=>r_slicel Fo.h rfl rfl (l:=i * 4) rfl (by omega)) ?_
  refine cd rfl (U32_big (hZ.mono (Ext.drew _))) ?_
  rintro v5 w5 ⟨rfl,e5⟩
  refine⟨((Evo.drew _).then e5),?_⟩
  refine q ?_
  refine WL.l rfl (l_f32from rfl) ?_
  exact zR8_2
 ·refine q ?_
  replace hab:=hab.mono hE
  refine WL.l0 (lst rfl rfl hab) ?_
  rintro _ w5 ⟨hab,e5,hz5⟩
  refine q ?_
  replace hK:=hK.mono e5
  rw[fillA_all _ _ (by simpa using hi)]at hK
  exact zR8_1
theorem arrDouble_ok{rb ab:Nat}{hd r:List UInt8}{ns:List Nat}{w:World}(hab:Blk w ab [.slice none 0 0])(hne:rb<ab)(hpos:0<ns.length)(hh:ArrH hd ns.length (0x82::(ns.flatMap fun m=>bigB m 8)))(hR:Rd w rb (hd++((0x82::(ns.flatMap fun m=>bigB m 8))++r))):
  Does TP 122 [.pointer (some ⟨ab,0,none⟩),.pointer (some ⟨rb,0,none⟩)] w fun u w'=>u= .nilIface∧(∃g,w.heap.size≤g∧Blk w' ab [.slice (some ⟨g,0,none⟩) ns.length ns.length]∧Blk w' g (ns.map fun m=> .float .f64 (m%18446744073709551616)))∧Rd w' rb r∧Evo (fun k=>k≠rb∧k≠ab) w w':=by
 have hle:=hh.le
 have hr0:=hab.lt
 have hl:=flat_length (fun m=>bigB m 8) 8 (fun m=>bigB_length m 8) ns
 refine do1 Tryz.func122 ?_
 have he:Evo (fun k=>k≠rb∧k≠ab) w w:=Evo.refl w
 refine q ?_
 refine cl rfl (readArrayHeader_ok hh hR) ?_
 rintro v1 w1 ⟨rfl,hR,e1⟩
 refine q ?_
 refine cl rfl (readType_ok hR) ?_
 rintro v2 w2 ⟨rfl,hR,e2⟩
 refine q ?_
 refine cl rfl (Next_I (l:=(ns.flatMap fun m=>bigB m 8)) hR (by rw[hl];push_cast;rfl)) ?_
 rintro v3 w3 ⟨v,rfl,hY,hR,e3⟩
 obtain⟨pb,po,cp,rfl,hcp,hA,hD⟩:=hY.open (by omega)
 replace hab:=((hab.mono e1).mono e2).mono e3
 refine q ?_
 refine WL.q rfl (r_sliceh Fo.h rfl rfl rfl (by first|omega|(simp;done)|(simp;omega))) ?_
 refine q ?_
 replace he:=((he.then e1).then e2).then e3
 have hs4:=he.size
 refine WL.l rfl (l_makeB (n:=ns.length) Fo.h rfl rfl rfl rfl rfl (by omega) (by simp only[maxLen];omega)) ?_
 rintro v4 w4 ⟨rfl,hK,e4⟩
 refine q ?_
 replace hR:=hR.mono e4
 replace hab:=hab.mono e4
 replace hY:=hY.mono e4
 replace hD:=hD.mono e4
 replace he:=he.then e4
 refine WC.loop2 (ι:=Nat) [(0,_),(4,_),(8,_),(10,_),(57,_)] (fun i=>[(11,.int .i64 ((i * 8:Nat):Int)),(58,.int .i64 (i:Int))]) (fun i wi=>Blk wi w3.heap.size (fillA (ns.map fun m=> .float .f64 (m%18446744073709551616)) (.float .f64 0) i)∧Evo (fun k=>k≠w3.heap.size) w4 wi) (fun i=>ns.length-i) 0 sb sb (⟨by rw[fillA_zero,List.length_map];exact hK,Evo.refl _⟩) ?_
 intro i wi1 hh;obtain⟨hK,hE⟩:=hh
 rcases Nat.lt_or_ge i ns.length with hi|hi
 ·have hik:i * 8+8≤ns.length * 8:=by rw[← Nat.succ_mul];exact Nat.mul_le_mul_right _ hi
  replace hY:=hY.mono hE
  have hZ:=cut_tail hY hi
  refine q ?_
  replace hR:=hR.mono hE
  replace hab:=hab.mono hE
  replace hD:=hD.mono hE
  refine WC.regionD (tt [0,1,2,3]++ff [4]++tt [5]) (Evo (fun k=>k≠w3.heap.size) _) mixed (by kernel_rfl) (Evo.drew _) ?_
  refine q ?_
  refine WD.q rfl (fun _ hS=>r_slicel Fo.h rfl rfl (l:=i * 8) rfl (by omega)) ?_
  refine cd rfl (U64_big (hZ.mono (Ext.drew _))) ?_
  rintro v5 w5 ⟨rfl,e5⟩
  refine⟨((Evo.drew _).then e5),?_⟩
  refine q ?_
  refine WL.l rfl (l_f64from rfl) ?_
  exact zR8_2
 ·refine q ?_
  replace hab:=hab.mono hE
  refine WL.l0 (lst rfl rfl hab) ?_
  rintro _ w5 ⟨hab,e5,hz5⟩
  refine q ?_
  replace hK:=hK.mono e5
  rw[fillA_all _ _ (by simpa using hi)]at hK
  exact zR8_1
theorem arrBool_ok{rb ab:Nat}{hd bs r:List UInt8}{w:World}(hab:Blk w ab [.slice none 0 0])(hne:rb<ab)(hpos:0<bs.length)(hh:ArrH hd bs.length (0x56::bs))(hR:Rd w rb (hd++((0x56::bs)++r))):
  Does TP 123 [.pointer (some ⟨ab,0,none⟩),.pointer (some ⟨rb,0,none⟩)] w fun u w'=>u= .nilIface∧(∃g,w.heap.size≤g∧Blk w' ab [.slice (some ⟨g,0,none⟩) bs.length bs.length]∧Blk w' g (bs.map fun b=> .bool ((b.toNat:Int) !=0)))∧Rd w' rb r∧Evo (fun k=>k≠rb∧k≠ab) w w':=by
 have hle:=hh.le
 have hr0:=hab.lt
 refine do1 Tryz.func123 ?_
 have he:Evo (fun k=>k≠rb∧k≠ab) w w:=Evo.refl w
 refine q ?_
 refine cl rfl (readArrayHeader_ok hh hR) ?_
 rintro v1 w1 ⟨rfl,hR,e1⟩
 replace hab:=hab.mono e1
 refine q ?_
 try refine WL.q rfl (r_sliceh Fo.h rfl rfl rfl (by first|omega|(simp;done)|(simp;omega))) ?_
 refine q ?_
 replace he:=he.then e1
 have hs2:=he.size
 refine WL.l rfl (l_makeB (n:=bs.length) Fo.h rfl rfl rfl rfl rfl (by omega) (by simp only[maxLen];omega)) ?_
 rintro v2 w2 ⟨rfl,hK,e2⟩
 refine q ?_
 replace hR:=hR.mono e2
 refine cl rfl (readType_ok hR) ?_
 rintro v3 w3 ⟨rfl,hR,e3⟩
 refine q ?_
 refine cl rfl (Next_ok (l:=bs) hR rfl) ?_
 rintro v4 w4 ⟨v,rfl,hY,hR,e4⟩
 obtain⟨pb,po,cp,rfl,hcp,hA,hD⟩:=hY.open hpos
 refine q ?_
 replace hab:=((hab.mono e2).mono e3).mono e4
 replace hK:=(hK.mono e3).mono e4
 replace he:=((he.then e2).then e3).then e4
 refine WC.loop2 (ι:=Nat) [(0,_),(4,_),(7,_),(57,_),(58,_)] (fun i=>[(59,.int .i64 (i:Int))]) (fun i wi=>Blk wi w1.heap.size (fillA (bs.map fun b=> .bool ((b.toNat:Int) !=0)) (.bool false) i)∧Evo (fun k=>k≠w1.heap.size) w4 wi) (fun i=>bs.length-i) 0 sb sb (⟨by rw[fillA_zero,List.length_map];exact hK,Evo.refl _⟩) ?_
 intro i wi1 hh;obtain⟨hK,hE⟩:=hh
 rcases Nat.lt_or_ge i bs.length with hi|hi
 ·rcases Decidable.em ((bs[i].toNat:Int)=0)with hz|hz
  ·refine q ?_
   replace hD:=hD.mono hE
   try refine WL.q rfl (r_load Fb.h rfl (Ext.refl _) (hD.get i hi)) ?_
   refine q ?_
   try refine WL.q rfl (r_cmp (r_eql rfl rfl) (beqT (by(exact hz)))) ?_
   exact zR8_3
  ·refine q ?_
   replace hD:=hD.mono hE
   try refine WL.q rfl (r_load Fb.h rfl (Ext.refl _) (hD.get i hi)) ?_
   refine q ?_
   try refine WL.q rfl (r_cmp (r_eql rfl rfl) (beqF (by(exact hz)))) ?_
   exact zR8_3
 ·refine q ?_
  replace hab:=hab.mono hE
  refine WL.l0 (lst rfl rfl hab) ?_
  rintro _ w5 ⟨hab,e5,hz5⟩
  refine q ?_
  replace hK:=hK.mono e5
  rw[fillA_all _ _ (by simpa using hi)]at hK
  replace hR:=(hR.mono hE).mono e5
  replace he:=(he.then hE).then e5
  exact fin1 rfl ⟨rfl,⟨_,hs2,hab,hK⟩,hR,he⟩
theorem arrUbyte_ok{rb ab:Nat}{hd bs r:List UInt8}{w:World}(hab:Blk w ab [.slice none 0 0])(hne:rb<ab)(hpos:0<bs.length)(hh:ArrH hd bs.length (0x50::bs))(hR:Rd w rb (hd++((0x50::bs)++r))):
  Does TP 233 [.pointer (some ⟨ab,0,none⟩),.pointer (some ⟨rb,0,none⟩)] w fun u w'=>u= .nilIface∧(∃v,Blk w' ab [v]∧IsB (fun b=>w.heap.size≤b) w' v bs)∧Rd w' rb r∧Evo (fun k=>k≠rb∧k≠ab) w w':=by
 have hle:=hh.le
 have hr0:=hab.lt
 refine do1 Tryz.func233 ?_
 refine q ?_
 refine cl rfl (readArrayHeader_ok hh hR) ?_
 rintro v1 w1 ⟨rfl,hR,e1⟩
 refine q ?_
 refine cl rfl (readType_ok hR) ?_
 rintro v2 w2 ⟨rfl,hR,e2⟩
 refine q ?_
 refine cl rfl (Next_ok (l:=bs) hR rfl) ?_
 rintro v3 w3 ⟨v,rfl,hY,hR,e3⟩
 have hB0:w.heap.size≤w3.heap.size:=Nat.le_trans (Nat.le_trans e1.size e2.size) e3.size
 refine q ?_
 refine WL.l rfl (l_app Fo.h rfl rfl (Own.nil w.heap.size 5 1 _) (Src.isB Fb.h hY) hB0 (by simp only[maxLen];omega) (by omega)) ?_
 rintro v4 w4 ⟨hO,e4⟩
 obtain⟨po1,co1,rfl,hco1,hfo⟩:=hO.form
 refine q ?_
 replace hab:=(((hab.mono e1).mono e2).mono e3).mono e4
 refine WL.l0 (lst rfl rfl hab) ?_
 rintro _ w5 ⟨hab,e5,hz5⟩
 refine q ?_
 replace hO:=hO.mono e5
 have hI:=Own.toB (A:=fun b=>w.heap.size≤b) hO (fun b h _=>h)
 replace hR:=(hR.mono e4).mono e5
 exact fin1 rfl ⟨rfl,⟨_,hab,hI⟩,hR,ch⟩
theorem At_ms{ms:Int}{w:World}(h1: -9223372036854775808≤ms)(h2:ms≤9223372036854775807):
  Does TP 199 [.int .i64 (IntKind.i64.wrap (ms.tdiv 1000)),.int .i64 (ms.tmod 1000 * 1000000)] w fun u w'=>u= .agg (tm ms).toArray∧Ext w w':=by
 rcases Int.lt_or_le ms 0 with h|h
 ·have hd:ms.tdiv 1000= -((-ms) / 1000):=by
   have h':ms= -(-ms):=by omega
   rw[h',Int.neg_tdiv,Int.tdiv_eq_ediv_of_nonneg (by omega),← h']
  have hm:ms.tmod 1000= -((-ms)%1000):=by
   have h':ms= -(-ms):=by omega
   rw[h',Int.neg_tmod,Int.tmod_eq_emod_of_nonneg (by omega),← h']
  have hw:IntKind.i64.wrap (ms.tdiv 1000)= -((-ms) / 1000):=by rw[hd];exact wrap_i64 (by omega) (by omega)
  rcases Int.lt_or_le 0 ((-ms)%1000)with h3|h3
  ·exact(At_neg (by omega) (by omega) (by omega) (by omega)).imp fun u w' hh=>⟨by rw[hh.1];exact tm_eq (by omega) (by omega),hh.2⟩
  ·exact zR8_4
 ·have hw:IntKind.i64.wrap (ms.tdiv 1000)=ms / 1000:=by rw[Int.tdiv_eq_ediv_of_nonneg h];exact wrap_i64 (by omega) (by omega)
  have hm:ms.tmod 1000=ms%1000:=Int.tmod_eq_emod_of_nonneg h
  exact zR8_4
theorem UTC_ok{a b:Value}{w:World}(ha:a.oneCell'=true)(hb:b.oneCell'=true):
  Does TP 200 [.agg #[a,b]] w fun u w'=>u= .agg #[a,b]∧Ext w w':=by
 refine doR Tryz.func200 ?_
 have he:Evo (fun _=>True) w w:=Evo.refl w
 refine q ?_
 have hs1:=he.size
 refine bx rfl ?_
 rintro _ w1 ⟨rfl,hb1,e1⟩
 replace he:=he.then e1
 have hs2:=he.size
 have hx2b1:=hb1.lt
 refine al ?_
 rintro _ w2 ⟨rfl,hb2,e2⟩
 replace hb1:=hb1.mono e2
 refine q ?_
 refine WL.l0 (lsw rfl rfl hb2) ?_
 rintro _ w3 ⟨hb2,e3,hz3⟩
 refine q ?_
 replace he:=he.then (e2.then e3)
 exact finC rfl hb2 agg_251 ⟨rfl,he⟩
theorem tmod_small(n:Int): -1000<n.tmod 1000∧n.tmod 1000<1000:=by
 rcases Int.lt_or_le n 0 with h|h
 ·have h':n= -(-n):=by omega
  rw[h',Int.neg_tmod,Int.tmod_eq_emod_of_nonneg (by omega)]
  omega
 ·rw[Int.tmod_eq_emod_of_nonneg h];omega
def msOf(m:Nat):Int:=IntKind.i64.wrap ((m%18446744073709551616:Nat):Int)
theorem arrTime_ok{rb ab:Nat}{hd r:List UInt8}{ns:List Nat}{w:World}(hab:Blk w ab [.slice none 0 0])(hne:rb<ab)(hpos:0<ns.length)(hh:ArrH hd ns.length (0x83::(ns.flatMap fun m=>bigB m 8)))(hR:Rd w rb (hd++((0x83::(ns.flatMap fun m=>bigB m 8))++r))):
  Does TP 127 [.pointer (some ⟨ab,0,none⟩),.pointer (some ⟨rb,0,none⟩)] w fun u w'=>u= .nilIface∧(∃g,w.heap.size≤g∧Blk w' ab [.slice (some ⟨g,0,none⟩) ns.length ns.length]∧Blk w' g (ns.map fun m=>tm (msOf m)).flatten)∧Rd w' rb r∧Evo (fun k=>k≠rb∧k≠ab) w w':=by
 have hle:=hh.le
 have hr0:=hab.lt
 have hl:=flat_length (fun m=>bigB m 8) 8 (fun m=>bigB_length m 8) ns
 have hol:∀x∈ns.map fun m=>tm (msOf m),x.length=2:=by intro x hx;simp only[List.mem_map]at hx;obtain⟨m,_,rfl⟩:=hx;rfl
 refine do1 Tryz.func127 ?_
 have he:Evo (fun k=>k≠rb∧k≠ab) w w:=Evo.refl w
 refine q ?_
 refine cl rfl (readArrayHeader_ok hh hR) ?_
 rintro v1 w1 ⟨rfl,hR,e1⟩
 refine q ?_
 refine cl rfl (readType_ok hR) ?_
 rintro v2 w2 ⟨rfl,hR,e2⟩
 refine q ?_
 refine cl rfl (Next_I (l:=(ns.flatMap fun m=>bigB m 8)) hR (by rw[hl];push_cast;rfl)) ?_
 rintro v3 w3 ⟨v,rfl,hY,hR,e3⟩
 obtain⟨pb,po,cp,rfl,hcp,hA,hD⟩:=hY.open (by omega)
 replace hab:=((hab.mono e1).mono e2).mono e3
 refine q ?_
 refine WL.q rfl (r_sliceh Fo.h rfl rfl rfl (by first|omega|(simp;done)|(simp;omega))) ?_
 refine q ?_
 replace he:=((he.then e1).then e2).then e3
 have hs4:=he.size
 refine WL.l rfl (l_makeN (n:=ns.length) Fo.h rfl (by decide) rfl rfl rfl rfl (by omega) (by simp only[maxLen];omega)) ?_
 rintro v4 w4 ⟨rfl,hK,e4⟩
 refine q ?_
 replace hR:=hR.mono e4
 replace hab:=hab.mono e4
 replace hY:=hY.mono e4
 replace hD:=hD.mono e4
 replace he:=he.then e4
 refine WC.loop2 (ι:=Nat) [(0,_),(4,_),(8,_),(10,_),(57,_)] (fun i=>[(11,.int .i64 ((i * 8:Nat):Int)),(58,.int .i64 (i:Int))]) (fun i wi=>Blk wi w3.heap.size (fillN (ns.map fun m=>tm (msOf m)) [.int .i64 0,.int .i64 0] i)∧Evo (fun k=>k≠w3.heap.size) w4 wi) (fun i=>ns.length-i) 0 sb sb (⟨by simpa[fillN]using hK,Evo.refl _⟩) ?_
 intro i wi1 hh;obtain⟨hK,hE⟩:=hh
 rcases Nat.lt_or_ge i ns.length with hi|hi
 ·have hik:i * 8+8≤ns.length * 8:=by rw[← Nat.succ_mul];exact Nat.mul_le_mul_right _ hi
  replace hY:=hY.mono hE
  have hZ:=cut_tail hY hi
  have hmb:=tmod_small (IntKind.i64.wrap ((ns[i]%18446744073709551616:Nat):Int))
  have hmr:=i64_range ((ns[i]%18446744073709551616:Nat):Int)
  refine q ?_
  replace hR:=hR.mono hE
  replace hab:=hab.mono hE
  replace hD:=hD.mono hE
  refine WC.regionD (tt [0,1,2,3]++ff [4]++tt [5,6]) (Ext _) mixed (by kernel_rfl) (Ext.drew _) ?_
  refine q ?_
  refine WD.q rfl (fun _ hS=>r_slicel Fo.h rfl rfl (l:=i * 8) rfl (by omega)) ?_
  refine cd rfl (U64_big (hZ.mono (Ext.drew _))) ?_
  rintro v5 w5 ⟨rfl,e5⟩
  refine⟨((Evo.drew _).then e5),?_⟩
  refine q ?_
  refine WL.q rfl (r_quo (by decide) rfl rfl) ?_
  refine q ?_
  refine WL.q rfl (r_rem (by decide) rfl rfl) ?_
  refine q ?_
  refine cl rfl (At_ms hmr.1 hmr.2) ?_
  rintro v6 w6 ⟨rfl,e6⟩
  refine cl rfl (UTC_ok rfl rfl) ?_
  rintro v7 w7 ⟨rfl,e7⟩
  refine q ?_
  replace hK:=(((hK.mono (Ext.drew _)).mono e5).mono e6).mono e7
  refine WL.l0 (l_fillN (vs:=tm (msOf ns[i])) Fo.h rfl (by omega) rfl rfl rfl hol hK (by simp[hi])) ?_
  rintro _ w8 ⟨hK,e8⟩
  refine q ?_
  exact⟨i+1,sb,sb,⟨hK,((((((hE.then (Ext.drew _)).then e5).then e6).then e7).then e8))⟩,by omega⟩
 ·refine q ?_
  replace hab:=hab.mono hE
  refine WL.l0 (lst rfl rfl hab) ?_
  rintro _ w5 ⟨hab,e5,hz5⟩
  refine q ?_
  replace hK:=hK.mono e5
  rw[fillN_all _ _ (by simpa using hi)]at hK
  exact zR8_1
theorem cut_text{A:Nat→Prop}{w:World}{p:Option Addr}{n c k i:Nat}{ts:List (List UInt8)}(hk:∀x∈ts,x.length=k)(h:IsB A w (.slice p n c) ts.flatten)(hi:i<ts.length):
  IsB A w (.slice (if c=i * k then p else p.map (·.add (i * k * 1))) (i * k+k-i * k) (c-i * k)) ts[i]:=by
 have key:∀(ts:List (List UInt8)),(∀x∈ts,x.length=k)→∀(i:Nat) (hi:i<ts.length),ts.flatten.drop (i * k)=ts[i]++(ts.drop (i+1)).flatten∧i * k+k≤ts.flatten.length:=by
  intro ts
  induction ts with
  |nil=>intro _ i hi;simp at hi
  |cons a l ih=>
   intro hk i hi
   have ha:a.length=k:=hk a (by simp)
   cases i with
   |zero=>simp[ha]
   |succ i=>
    obtain⟨h1,h2⟩:=ih (fun x hx=>hk x (by simp[hx])) i (by simpa using hi)
    have e:(i+1) * k=a.length+i * k:=by rw[ha,Nat.add_mul,Nat.one_mul,Nat.add_comm]
    refine⟨?_,?_⟩
    ·rw[List.flatten_cons,e,← List.drop_drop,List.drop_left,h1];simp
    ·rw[List.flatten_cons,List.length_append,e];omega
 obtain⟨h1,h2⟩:=key ts hk i hi
 have:=h.cut (i * k) (i * k+k-i * k) (by omega)
 rw[h1,Nat.add_sub_cancel_left]at this
 rw[Nat.add_sub_cancel_left]
 have e0:ts[i].length=k:=hk _ (List.getElem_mem hi)
 rw[List.take_append_of_le_length (by omega),List.take_of_length_le (by omega)]at this
 exact this
theorem flatten_len{k:Nat}:∀(l:List (List UInt8)),(∀x∈l,x.length=k)→l.flatten.length=l.length * k
 |[],_=>by simp
 |a::r,h=>by
  have:=flatten_len r (fun x hx=>h x (by simp[hx]))
  simp[this,h a (by simp),Nat.add_mul];omega
theorem arrUUID_ok{rb ab:Nat}{hd r:List UInt8}{ts:List (List UInt8)}{w:World}(hts:∀x∈ts,x.length=16)(hab:Blk w ab [.slice none 0 0])(hne:rb<ab)(hpos:0<ts.length)(hh:ArrH hd ts.length (0x98::ts.flatten))(hR:Rd w rb (hd++((0x98::ts.flatten)++r))):
  Does TP 129 [.pointer (some ⟨ab,0,none⟩),.pointer (some ⟨rb,0,none⟩)] w fun u w'=>u= .nilIface∧(∃g,w.heap.size≤g∧Blk w' ab [.slice (some ⟨g,0,none⟩) ts.length ts.length]∧Blk w' g (ts.map bc).flatten)∧Rd w' rb r∧Evo (fun k=>k≠rb∧k≠ab) w w':=by
 have hle:=hh.le
 have hr0:=hab.lt
 have hl:=flatten_len ts hts
 have hol:∀x∈ts.map bc,x.length=16:=by intro x hx;simp only[List.mem_map]at hx;obtain⟨t,ht,rfl⟩:=hx;simp[hts t ht]
 refine do1 Tryz.func129 ?_
 have he:Evo (fun k=>k≠rb∧k≠ab) w w:=Evo.refl w
 refine q ?_
 refine cl rfl (readArrayHeader_ok hh hR) ?_
 rintro v1 w1 ⟨rfl,hR,e1⟩
 refine q ?_
 refine cl rfl (readType_ok hR) ?_
 rintro v2 w2 ⟨rfl,hR,e2⟩
 refine q ?_
 refine cl rfl (Next_I (l:=ts.flatten) hR (by rw[hl];push_cast;rfl)) ?_
 rintro v3 w3 ⟨v,rfl,hY,hR,e3⟩
 obtain⟨pb,po,cp,rfl,hcp,hA,hD⟩:=hY.open (by omega)
 replace hab:=((hab.mono e1).mono e2).mono e3
 refine q ?_
 refine WL.q rfl (r_sliceh Fo.h rfl rfl rfl (by first|omega|(simp;done)|(simp;omega))) ?_
 refine q ?_
 replace he:=((he.then e1).then e2).then e3
 have hs4:=he.size
 refine WL.l rfl (l_makeN (n:=ts.length) Fo.h rfl (by decide) rfl rfl rfl rfl (by omega) (by simp only[maxLen];omega)) ?_
 rintro v4 w4 ⟨rfl,hK,e4⟩
 refine q ?_
 replace hR:=hR.mono e4
 replace hab:=hab.mono e4
 replace hY:=hY.mono e4
 replace hD:=hD.mono e4
 replace he:=he.then e4
 refine WC.loop2 (ι:=Nat) [(0,_),(4,_),(8,_),(10,_),(56,_)] (fun i=>[(11,.int .i64 ((i * 16:Nat):Int)),(57,.int .i64 (i:Int))]) (fun i wi=>Blk wi w3.heap.size (fillN (ts.map bc) (List.replicate 16 (.int .u8 0)) i)∧Evo (fun k=>k≠w3.heap.size) w4 wi) (fun i=>ts.length-i) 0 sb sb (⟨by simpa[fillN]using hK,Evo.refl _⟩) ?_
 intro i wi1 hh;obtain⟨hK,hE⟩:=hh
 rcases Nat.lt_or_ge i ts.length with hi|hi
 ·have hik:i * 16+16≤ts.length * 16:=by rw[← Nat.succ_mul];exact Nat.mul_le_mul_right _ hi
  replace hY:=hY.mono hE
  have hZ:=cut_text hts hY hi
  refine q ?_
  replace hR:=hR.mono hE
  replace hab:=hab.mono hE
  replace hD:=hD.mono hE
  refine WC.regionD (tt [0,1,2,3,4,5,6,7,8]++ff [9]) (Evo (fun k=>k≠w3.heap.size) _) mixed (by kernel_rfl) (Evo.drew _) ?_
  refine q ?_
  refine WD.q rfl (fun _ hS=>r_sliceArr Fo.h rfl) ?_
  refine q ?_
  refine WD.q rfl (fun _ hS=>r_slice Fo.h rfl rfl rfl (l:=i * 16) (h:=i * 16+16) rfl (by push_cast;rfl) (by omega) (by omega)) ?_
  refine WD.l rfl rfl (l_copyF Fb.h rfl (by omega) rfl (hK.mono (Ext.drew _)) rfl hol (hZ.mono (Ext.drew _)) (hts _ (List.getElem_mem hi)) (by decide) (by simp[hi])) ?_
  rintro v5 w5 ⟨rfl,hK,e5⟩
  refine⟨((Evo.drew _).then e5),?_⟩
  refine q ?_
  exact⟨i+1,sb,sb,⟨hK,(((hE.then (Ext.drew _)).then e5))⟩,by omega⟩
 ·refine q ?_
  replace hab:=hab.mono hE
  refine WL.l0 (lst rfl rfl hab) ?_
  rintro _ w5 ⟨hab,e5,hz5⟩
  refine q ?_
  replace hK:=hK.mono e5
  rw[fillN_all _ _ (by simpa using hi)]at hK
  exact zR8_1
end Go.Proofs.LL
