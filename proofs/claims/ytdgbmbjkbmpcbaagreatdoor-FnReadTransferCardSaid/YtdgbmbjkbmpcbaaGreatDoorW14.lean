/- Contracts of functions and own laws. Conditions: those that each theorem states. -/
import Derived.Test.YtdgbmbjkbmpcbaaGreatDoorW13
set_option linter.all false
set_option autoImplicit true
set_option relaxedAutoImplicit true
set_option maxRecDepth 20000
namespace Go.Proofs.LL
open Go Go.Proofs Go.RowKit
set_option maxHeartbeats 4000000
attribute [local irreducible] ar WL WC cq WT WX
theorem wL{A:Prop}(h:A:=by
 replace hR:=(hR.m hE).m e5
 replace he:=(he.t hE).t e5
 exact aw rfl ⟨rfl,⟨_,hs4,hab,hK⟩,hR,he⟩):A:=h
theorem CN{A:Prop}(h:A:=by
 rintro v6 w6 ⟨rfl,e6⟩
 refine q ?_
 replace hK:=((hK.m Xd).m e5).m e6
 refine WL.l0 (lO Fo.h rfl (by omega) rfl rfl hK (by simp[hi]<;>omega)) ?_
 rintro _ w7 ⟨hK,e7⟩
 refine q ?_
 exact⟨i+1,sb,sb,⟨hK,(((((hE.t Xd).t e5).t e6).t e7))⟩,by omega⟩):A:=h
theorem CO{A:Prop}(h:A:=by
 refine q ?_
 refine WL.l0 (lO Fo.h rfl (by omega) rfl rfl hK (by simp[hi];omega)) ?_
 rintro _ w5 ⟨hK,e5⟩
 refine q ?_
 exact⟨i+1,sb,sb,⟨hK,(hE.t e5)⟩,by omega⟩):A:=h
theorem CP{A:Prop}(h:A:=by
 exact(tN (by omega) (by omega)).imp fun u w' hh=>⟨by rw[hh.1];exact wA (by omega) (by omega),hh.2⟩):A:=h
theorem CQ{A:Prop}(h:A:=by
 rintro v3 w3 ⟨rfl,e3⟩
 refine q ?_
 replace hR:=hR.m e3
 exact bt rfl rfl ⟨rfl,hR,ch⟩):A:=h
section
variable {ρ:Fr} {w:World} {ty:TypeId}
theorem pr{args:Array Operand}{ts:Array TypeId}{n:Int}(ha:lS ρ args.toList=some [.int .u32 n]):aA TP (.call ⟨.value (.func 193),args,ts⟩) ty ρ w (fun u w'=>u= .float .f32 n.toNat∧ay w w'):=by
 intro N D a dst pos af g hh next Q hn
 refine vX (e:=Extern.MathFloatBits.float32frombits) Tryz.func193 (by kernel_rfl) rfl (by kernel_rfl) (by kernel_rfl) ha (v:= .float .f32 n.toNat) (fun w=>rfl) N D a dst pos af g hh next Q fun u w' h=>hn u w' ⟨h.1,h.2▸ay.refl _⟩
theorem pw{args:Array Operand}{ts:Array TypeId}{n:Int}(ha:lS ρ args.toList=some [.int .u64 n]):aA TP (.call ⟨.value (.func 194),args,ts⟩) ty ρ w (fun u w'=>u= .float .f64 n.toNat∧ay w w'):=by
 intro N D a dst pos af g hh next Q hn
 refine vX (e:=Extern.MathFloatBits.float64frombits) Tryz.func194 (by kernel_rfl) rfl (by kernel_rfl) (by kernel_rfl) ha (v:= .float .f64 n.toNat) (fun w=>rfl) N D a dst pos af g hh next Q fun u w' h=>hn u w' ⟨h.1,h.2▸ay.refl _⟩
theorem pq{args:Array Operand}{ts:Array TypeId}(ha:lS ρ args.toList=some [.float .f32 n]):aA TP (.call ⟨.value (.func 138),args,ts⟩) ty ρ w (fun u w'=>u= .int .u32 (n:Int)∧ay w w'):=by
 intro N D a dst pos af g hh next Q hn
 refine vX (e:=Extern.MathFloatBits.float32bits) Tryz.func138 (by kernel_rfl) rfl (by kernel_rfl) (by kernel_rfl) ha (v:= .int .u32 (n:Int)) (fun w=>rfl) N D a dst pos af g hh next Q fun u w' h=>hn u w' ⟨h.1,h.2▸ay.refl _⟩
theorem xD{args:Array Operand}{ts:Array TypeId}(ha:lS ρ args.toList=some [.float .f64 n]):aA TP (.call ⟨.value (.func 139),args,ts⟩) ty ρ w (fun u w'=>u= .int .u64 (n:Int)∧ay w w'):=by
 intro N D a dst pos af g hh next Q hn
 refine vX (e:=Extern.MathFloatBits.float64bits) Tryz.func139 (by kernel_rfl) rfl (by kernel_rfl) (by kernel_rfl) ha (v:= .int .u64 (n:Int)) (fun w=>rfl) N D a dst pos af g hh next Q fun u w' h=>hn u w' ⟨h.1,h.2▸ay.refl _⟩
end
theorem rp{a b c d:UInt8}{r:List UInt8}(hR:Rd w rb (0x72::a::b::c::d::r)):
  ah TP 108 [.pointer (some ⟨rb,0,none⟩)] w fun u w'=>u= .tuple #[.float .f32 (be [a,b,c,d]),.nilIface]∧Rd w' rb r∧am (Nb rb) w w':=by
 refine cN Tryz.func108 ?_
 refine q ?_
 refine Hm rfl (aD hR) fun w1 hR e1=>?_
 refine q ?_
 refine Hm rfl (jY hR) fun w2 hR e2=>?_
 refine q ?_
 refine WL.l rfl (pr rfl) ?_
 exact CQ
theorem oM{a b c d e f g h:UInt8}{r:List UInt8}(hR:Rd w rb (0x82::a::b::c::d::e::f::g::h::r)):
  ah TP 109 [.pointer (some ⟨rb,0,none⟩)] w fun u w'=>u= .tuple #[.float .f64 (be [a,b,c,d,e,f,g,h]),.nilIface]∧Rd w' rb r∧am (Nb rb) w w':=by
 refine cN Tryz.func109 ?_
 refine q ?_
 refine Hm rfl (aD hR) fun w1 hR e1=>?_
 refine q ?_
 refine Hm rfl (gt hR) fun w2 hR e2=>?_
 refine q ?_
 refine WL.l rfl (pw rfl) ?_
 exact CQ
theorem r6{r:List UInt8}{ns:List Nat}(hab:aH w ab [.slice none 0 0])(hne:rb<ab)(hpos:0<ns.length)(hh:fg hd ns.length (0x72::(ns.flatMap fun m=>aI m 4)))(hR:Rd w rb (hd++((0x72::(ns.flatMap fun m=>aI m 4))++r))):
  ah TP 121 [.pointer (some ⟨ab,0,none⟩),.pointer (some ⟨rb,0,none⟩)] w fun u w'=>u= .nilIface∧(∃g,w.heap.size≤g∧aH w' ab [.slice (some ⟨g,0,none⟩) ns.length ns.length]∧aH w' g (ns.map fun m=> .float .f32 (m%4294967296)))∧Rd w' rb r∧am (fun k=>k≠rb∧k≠ab) w w':=by
 have hle:=hh.le
 have hr0:=hab.lt
 have hl:=bZ (fun m=>aI m 4) 4 (fun m=>bh m 4) ns
 refine aR Tryz.func121 ?_
 have he:am (fun k=>k≠rb∧k≠ab) w w:=am.refl w
 refine q ?_
 refine Hm rfl (aG hh hR) fun w1 hR e1=>?_
 refine q ?_
 refine Hm rfl (aD hR) fun w2 hR e2=>?_
 refine q ?_
 refine cl rfl (dC (l:=(ns.flatMap fun m=>aI m 4)) hR (by rw[hl];push_cast;rfl)) ?_
 rintro v3 w3 ⟨v,rfl,hY,hR,e3⟩
 obtain⟨pb,po,cp,rfl,hcp,hA,hD⟩:=hY.open (by omega)
 replace hab:=((hab.m e1).m e2).m e3
 refine q ?_
 refine Hq (bu Fo.h rfl rfl rfl)<|q ?_
 replace he:=((he.t e1).t e2).t e3
 have hs4:=he.s
 refine WL.l rfl (cF (n:=ns.length) Fo.h rfl rfl rfl rfl rfl (by omega) (by simp only[maxLen];omega)) ?_
 rintro v4 w4 ⟨rfl,hK,e4⟩
 refine q ?_
 replace hR:=hR.m e4
 replace hab:=hab.m e4
 replace hY:=hY.m e4
 replace hD:=hD.m e4
 replace he:=he.t e4
 refine WC.loop2 (ι:=Nat) [(0,_),(4,_),(8,_),(10,_),(57,_)] (fun i=>[(11,.int .i64 ((i * 4:Nat):Int)),(58,.int .i64 (i:Int))]) (fun i wi=>aH wi w3.heap.size (dr (ns.map fun m=> .float .f32 (m%4294967296)) (.float .f32 0) i)∧am (fun k=>k≠w3.heap.size) w4 wi) (fun i=>ns.length-i) 0 sb sb (⟨by rw[bL,List.length_map];exact hK,am.refl _⟩) ?_
 intro i wi1 hh;obtain⟨hK,hE⟩:=hh
 rcases Nat.lt_or_ge i ns.length with hi|hi
 ·have hik:i * 4+4≤ns.length * 4:=by rw[← Nat.succ_mul];exact Nat.mul_le_mul_right _ hi
  replace hY:=hY.m hE
  have hZ:=gK hY hi
  refine q ?_
  replace hR:=hR.m hE
  replace hab:=hab.m hE
  replace hD:=hD.m hE
  refine WC.regionD (tt [0,1,2,3]++ff [4]++tt [5]) (am (fun k=>k≠w3.heap.size) _) mixed (by kernel_rfl) Vd<|q ?_
  refine He (fun _ hS=>cK Fo.h rfl rfl (l:=i * 4) rfl (by omega))<|cd rfl (pX (hZ.m Xd)) ?_
  rintro v5 w5 ⟨rfl,e5⟩
  refine⟨(Vd.t e5),?_⟩
  refine q ?_
  refine WL.l rfl (pr rfl) ?_
  exact CN
 ·refine q ?_
  replace hab:=hab.m hE
  refine Hp rfl rfl hab fun w5 hab e5 hz5=>?_
  refine q ?_
  replace hK:=hK.m e5
  rw[fK _ _ (by simpa using hi)]at hK
  exact wL
theorem pY{r:List UInt8}{ns:List Nat}(hab:aH w ab [.slice none 0 0])(hne:rb<ab)(hpos:0<ns.length)(hh:fg hd ns.length (0x82::(ns.flatMap fun m=>aI m 8)))(hR:Rd w rb (hd++((0x82::(ns.flatMap fun m=>aI m 8))++r))):
  ah TP 122 [.pointer (some ⟨ab,0,none⟩),.pointer (some ⟨rb,0,none⟩)] w fun u w'=>u= .nilIface∧(∃g,w.heap.size≤g∧aH w' ab [.slice (some ⟨g,0,none⟩) ns.length ns.length]∧aH w' g (ns.map fun m=> .float .f64 (m%18446744073709551616)))∧Rd w' rb r∧am (fun k=>k≠rb∧k≠ab) w w':=by
 have hle:=hh.le
 have hr0:=hab.lt
 have hl:=bZ (fun m=>aI m 8) 8 (fun m=>bh m 8) ns
 refine aR Tryz.func122 ?_
 have he:am (fun k=>k≠rb∧k≠ab) w w:=am.refl w
 refine q ?_
 refine Hm rfl (aG hh hR) fun w1 hR e1=>?_
 refine q ?_
 refine Hm rfl (aD hR) fun w2 hR e2=>?_
 refine q ?_
 refine cl rfl (dC (l:=(ns.flatMap fun m=>aI m 8)) hR (by rw[hl];push_cast;rfl)) ?_
 rintro v3 w3 ⟨v,rfl,hY,hR,e3⟩
 obtain⟨pb,po,cp,rfl,hcp,hA,hD⟩:=hY.open (by omega)
 replace hab:=((hab.m e1).m e2).m e3
 refine q ?_
 refine Hq (bu Fo.h rfl rfl rfl)<|q ?_
 replace he:=((he.t e1).t e2).t e3
 have hs4:=he.s
 refine WL.l rfl (cF (n:=ns.length) Fo.h rfl rfl rfl rfl rfl (by omega) (by simp only[maxLen];omega)) ?_
 rintro v4 w4 ⟨rfl,hK,e4⟩
 refine q ?_
 replace hR:=hR.m e4
 replace hab:=hab.m e4
 replace hY:=hY.m e4
 replace hD:=hD.m e4
 replace he:=he.t e4
 refine WC.loop2 (ι:=Nat) [(0,_),(4,_),(8,_),(10,_),(57,_)] (fun i=>[(11,.int .i64 ((i * 8:Nat):Int)),(58,.int .i64 (i:Int))]) (fun i wi=>aH wi w3.heap.size (dr (ns.map fun m=> .float .f64 (m%18446744073709551616)) (.float .f64 0) i)∧am (fun k=>k≠w3.heap.size) w4 wi) (fun i=>ns.length-i) 0 sb sb (⟨by rw[bL,List.length_map];exact hK,am.refl _⟩) ?_
 intro i wi1 hh;obtain⟨hK,hE⟩:=hh
 rcases Nat.lt_or_ge i ns.length with hi|hi
 ·have hik:i * 8+8≤ns.length * 8:=by rw[← Nat.succ_mul];exact Nat.mul_le_mul_right _ hi
  replace hY:=hY.m hE
  have hZ:=gK hY hi
  refine q ?_
  replace hR:=hR.m hE
  replace hab:=hab.m hE
  replace hD:=hD.m hE
  refine WC.regionD (tt [0,1,2,3]++ff [4]++tt [5]) (am (fun k=>k≠w3.heap.size) _) mixed (by kernel_rfl) Vd<|q ?_
  refine He (fun _ hS=>cK Fo.h rfl rfl (l:=i * 8) rfl (by omega))<|cd rfl (mU (hZ.m Xd)) ?_
  rintro v5 w5 ⟨rfl,e5⟩
  refine⟨(Vd.t e5),?_⟩
  refine q ?_
  refine WL.l rfl (pw rfl) ?_
  exact CN
 ·refine q ?_
  replace hab:=hab.m hE
  refine Hp rfl rfl hab fun w5 hab e5 hz5=>?_
  refine q ?_
  replace hK:=hK.m e5
  rw[fK _ _ (by simpa using hi)]at hK
  exact wL
theorem tZ{bs r:List UInt8}(hab:aH w ab [.slice none 0 0])(hne:rb<ab)(hpos:0<bs.length)(hh:fg hd bs.length (0x56::bs))(hR:Rd w rb (hd++((0x56::bs)++r))):
  ah TP 123 [.pointer (some ⟨ab,0,none⟩),.pointer (some ⟨rb,0,none⟩)] w fun u w'=>u= .nilIface∧(∃g,w.heap.size≤g∧aH w' ab [.slice (some ⟨g,0,none⟩) bs.length bs.length]∧aH w' g (bs.map fun b=> .bool ((b.toNat:Int) !=0)))∧Rd w' rb r∧am (fun k=>k≠rb∧k≠ab) w w':=by
 have hle:=hh.le
 have:=hab.lt
 refine aR Tryz.func123 ?_
 have he:am (fun k=>k≠rb∧k≠ab) w w:=am.refl w
 refine q ?_
 refine Hm rfl (aG hh hR) fun w1 hR e1=>?_
 replace hab:=hab.m e1
 refine q ?_
 try refine Hq (bu Fo.h rfl rfl rfl) ?_
 refine q ?_
 replace he:=he.t e1
 have hs2:=he.s
 refine WL.l rfl (cF (n:=bs.length) Fo.h rfl rfl rfl rfl rfl (by omega) (by simp only[maxLen];omega)) ?_
 rintro v2 w2 ⟨rfl,hK,e2⟩
 refine q ?_
 replace hR:=hR.m e2
 refine Hm rfl (aD hR) fun w3 hR e3=>?_
 refine q ?_
 refine cl rfl (cL (l:=bs) hR rfl) ?_
 rintro v4 w4 ⟨v,rfl,hY,hR,e4⟩
 obtain⟨pb,po,cp,rfl,hcp,hA,hD⟩:=hY.open hpos
 refine q ?_
 replace hab:=((hab.m e2).m e3).m e4
 replace hK:=(hK.m e3).m e4
 replace he:=((he.t e2).t e3).t e4
 refine WC.loop2 (ι:=Nat) [(0,_),(4,_),(7,_),(57,_),(58,_)] (fun i=>[(59,.int .i64 (i:Int))]) (fun i wi=>aH wi w1.heap.size (dr (bs.map fun b=> .bool ((b.toNat:Int) !=0)) (.bool false) i)∧am (fun k=>k≠w1.heap.size) w4 wi) (fun i=>bs.length-i) 0 sb sb (⟨by rw[bL,List.length_map];exact hK,am.refl _⟩) ?_
 intro i wi1 hh;obtain⟨hK,hE⟩:=hh
 rcases Nat.lt_or_ge i bs.length with hi|hi
 ·rcases Decidable.em ((bs[i].toNat:Int)=0)with hz|hz
  ·refine q ?_
   replace hD:=hD.m hE
   try refine Hq (ao Fb.h rfl Xr (hD.get i hi)) ?_
   refine q ?_
   try refine Hq (ae (ak rfl rfl) (br (by(exact hz)))) ?_
   exact CO
  ·refine q ?_
   replace hD:=hD.m hE
   try refine Hq (ao Fb.h rfl Xr (hD.get i hi)) ?_
   refine q ?_
   try refine Hq (ae (ak rfl rfl) (bk (by(exact hz)))) ?_
   exact CO
 ·refine q ?_
  replace hab:=hab.m hE
  refine Hp rfl rfl hab fun w5 hab e5 hz5=>?_
  refine q ?_
  replace hK:=hK.m e5
  rw[fK _ _ (by simpa using hi)]at hK
  replace hR:=(hR.m hE).m e5
  replace he:=(he.t hE).t e5
  exact aw rfl ⟨rfl,⟨_,hs2,hab,hK⟩,hR,he⟩
theorem sf{bs r:List UInt8}(hab:aH w ab [.slice none 0 0])(hne:rb<ab)(hpos:0<bs.length)(hh:fg hd bs.length (0x50::bs))(hR:Rd w rb (hd++((0x50::bs)++r))):
  ah TP 233 [.pointer (some ⟨ab,0,none⟩),.pointer (some ⟨rb,0,none⟩)] w fun u w'=>u= .nilIface∧(∃v,aH w' ab [v]∧bT (fun b=>w.heap.size≤b) w' v bs)∧Rd w' rb r∧am (fun k=>k≠rb∧k≠ab) w w':=by
 have hle:=hh.le
 have:=hab.lt
 refine aR Tryz.func233 ?_
 refine q ?_
 refine Hm rfl (aG hh hR) fun w1 hR e1=>?_
 refine q ?_
 refine Hm rfl (aD hR) fun w2 hR e2=>?_
 refine q ?_
 refine cl rfl (cL (l:=bs) hR rfl) ?_
 rintro v3 w3 ⟨v,rfl,hY,hR,e3⟩
 have hB0:w.heap.size≤w3.heap.size:=Nat.le_trans (Nat.le_trans e1.s e2.s) e3.s
 refine q ?_
 refine WL.l rfl (bz Fo.h rfl rfl (aT.nil w.heap.size 5 1 _) (Src.isB Fb.h hY) hB0 (by simp only[maxLen];omega) (by omega)) ?_
 rintro v4 w4 ⟨hO,e4⟩
 obtain⟨po1,co1,rfl,hco1,hfo⟩:=hO.form
 refine q ?_
 replace hab:=(((hab.m e1).m e2).m e3).m e4
 refine Hp rfl rfl hab fun w5 hab e5 hz5=>?_
 refine q ?_
 replace hO:=hO.m e5
 have hI:=aT.toB (A:=fun b=>w.heap.size≤b) hO (fun b h _=>h)
 replace hR:=(hR.m e4).m e5
 exact aw rfl ⟨rfl,⟨_,hab,hI⟩,hR,ch⟩
theorem Eq{ms:Int}(h1: -9223372036854775808≤ms)(h2:ms≤9223372036854775807):
  ah TP 199 [.int .i64 (IntKind.i64.wrap (ms.tdiv 1000)),.int .i64 (ms.tmod 1000 * 1000000)] w fun u w'=>u= .agg (tm ms).toArray∧ay w w':=by
 rcases Int.lt_or_le ms 0 with h|h
 ·have hd:ms.tdiv 1000= -((-ms) / 1000):=by
   have h':ms= -(-ms):=by omega
   rw[h',Int.neg_tdiv,Int.tdiv_eq_ediv_of_nonneg (by omega),← h']
  have hm:ms.tmod 1000= -((-ms)%1000):=by
   have h':ms= -(-ms):=by omega
   rw[h',Int.neg_tmod,Int.tmod_eq_emod_of_nonneg (by omega),← h']
  have hw:IntKind.i64.wrap (ms.tdiv 1000)= -((-ms) / 1000):=by rw[hd];exact dM (by omega) (by omega)
  rcases Int.lt_or_le 0 ((-ms)%1000)with h3|h3
  ·exact(x9 (by omega) (by omega) (by omega) (by omega)).imp fun u w' hh=>⟨by rw[hh.1];exact wA (by omega) (by omega),hh.2⟩
  ·exact CP
 ·have hw:IntKind.i64.wrap (ms.tdiv 1000)=ms / 1000:=by rw[Int.tdiv_eq_ediv_of_nonneg h];exact dM (by omega) (by omega)
  have hm:ms.tmod 1000=ms%1000:=Int.tmod_eq_emod_of_nonneg h
  exact CP
theorem Dl{a b:Value}(ha:a.oneCell'=true)(hb:b.oneCell'=true):
  ah TP 200 [.agg #[a,b]] w fun u w'=>u= .agg #[a,b]∧ay w w':=by
 refine co Tryz.func200 ?_
 have he:=XI w
 refine q ?_
 have:=he.s
 refine Hb rfl fun w1 hb1 e1=>?_
 replace he:=he.t e1
 have:=he.s
 have:=hb1.lt
 refine Ha fun w2 hb2 e2=>?_
 replace hb1:=hb1.m e2
 refine q ?_
 refine Ho rfl rfl hb2 fun w3 hb2 e3 hz3=>?_
 refine q ?_
 replace he:=he.t (e2.t e3)
 exact cO rfl hb2 jG ⟨rfl,he⟩
theorem vk(n:Int): -1000<n.tmod 1000∧n.tmod 1000<1000:=by
 rcases Int.lt_or_le n 0 with h|h
 ·have h':n= -(-n):=by omega
  rw[h',Int.neg_tmod,Int.tmod_eq_emod_of_nonneg (by omega)]
  omega
 ·rw[Int.tmod_eq_emod_of_nonneg h];omega
def zq(m:Nat):Int:=IntKind.i64.wrap ((m%18446744073709551616:Nat):Int)
theorem ud{r:List UInt8}{ns:List Nat}(hab:aH w ab [.slice none 0 0])(hne:rb<ab)(hpos:0<ns.length)(hh:fg hd ns.length (0x83::(ns.flatMap fun m=>aI m 8)))(hR:Rd w rb (hd++((0x83::(ns.flatMap fun m=>aI m 8))++r))):
  ah TP 127 [.pointer (some ⟨ab,0,none⟩),.pointer (some ⟨rb,0,none⟩)] w fun u w'=>u= .nilIface∧(∃g,w.heap.size≤g∧aH w' ab [.slice (some ⟨g,0,none⟩) ns.length ns.length]∧aH w' g (ns.map fun m=>tm (zq m)).flatten)∧Rd w' rb r∧am (fun k=>k≠rb∧k≠ab) w w':=by
 have hle:=hh.le
 have hr0:=hab.lt
 have hl:=bZ (fun m=>aI m 8) 8 (fun m=>bh m 8) ns
 have hol:∀x∈ns.map fun m=>tm (zq m),x.length=2:=by intro x hx;simp only[List.mem_map]at hx;obtain⟨m,_,rfl⟩:=hx;rfl
 refine aR Tryz.func127 ?_
 have he:am (fun k=>k≠rb∧k≠ab) w w:=am.refl w
 refine q ?_
 refine Hm rfl (aG hh hR) fun w1 hR e1=>?_
 refine q ?_
 refine Hm rfl (aD hR) fun w2 hR e2=>?_
 refine q ?_
 refine cl rfl (dC (l:=(ns.flatMap fun m=>aI m 8)) hR (by rw[hl];push_cast;rfl)) ?_
 rintro v3 w3 ⟨v,rfl,hY,hR,e3⟩
 obtain⟨pb,po,cp,rfl,hcp,hA,hD⟩:=hY.open (by omega)
 replace hab:=((hab.m e1).m e2).m e3
 refine q ?_
 refine Hq (bu Fo.h rfl rfl rfl)<|q ?_
 replace he:=((he.t e1).t e2).t e3
 have hs4:=he.s
 refine WL.l rfl (vZ (n:=ns.length) Fo.h rfl (by decide) rfl rfl rfl rfl (by omega) (by simp only[maxLen];omega)) ?_
 rintro v4 w4 ⟨rfl,hK,e4⟩
 refine q ?_
 replace hR:=hR.m e4
 replace hab:=hab.m e4
 replace hY:=hY.m e4
 replace hD:=hD.m e4
 replace he:=he.t e4
 refine WC.loop2 (ι:=Nat) [(0,_),(4,_),(8,_),(10,_),(57,_)] (fun i=>[(11,.int .i64 ((i * 8:Nat):Int)),(58,.int .i64 (i:Int))]) (fun i wi=>aH wi w3.heap.size (ej (ns.map fun m=>tm (zq m)) [.int .i64 0,.int .i64 0] i)∧am (fun k=>k≠w3.heap.size) w4 wi) (fun i=>ns.length-i) 0 sb sb (⟨by simpa[ej]using hK,am.refl _⟩) ?_
 intro i wi1 hh;obtain⟨hK,hE⟩:=hh
 rcases Nat.lt_or_ge i ns.length with hi|hi
 ·have hik:i * 8+8≤ns.length * 8:=by rw[← Nat.succ_mul];exact Nat.mul_le_mul_right _ hi
  replace hY:=hY.m hE
  have hZ:=gK hY hi
  have hmb:=vk (IntKind.i64.wrap ((ns[i]%18446744073709551616:Nat):Int))
  have hmr:=eJ ((ns[i]%18446744073709551616:Nat):Int)
  refine q ?_
  replace hR:=hR.m hE
  replace hab:=hab.m hE
  replace hD:=hD.m hE
  refine WC.regionD (tt [0,1,2,3]++ff [4]++tt [5,6]) (ay _) mixed (by kernel_rfl) Xd<|q ?_
  refine He (fun _ hS=>cK Fo.h rfl rfl (l:=i * 8) rfl (by omega))<|cd rfl (mU (hZ.m Xd)) ?_
  rintro v5 w5 ⟨rfl,e5⟩
  refine⟨(Vd.t e5),?_⟩
  refine q ?_
  refine Hq (s9 (by decide) rfl rfl)<|q ?_
  refine Hq (pF (by decide) rfl rfl)<|q ?_
  refine Hl rfl (Eq hmr.1 hmr.2) fun w6 e6=>?_
  refine Hl rfl (Dl rfl rfl) fun w7 e7=>?_
  refine q ?_
  replace hK:=(((hK.m Xd).m e5).m e6).m e7
  refine WL.l0 (Bx (vs:=tm (zq ns[i])) Fo.h rfl (by omega) rfl rfl rfl hol hK (by simp[hi])) ?_
  rintro _ w8 ⟨hK,e8⟩
  refine q ?_
  exact⟨i+1,sb,sb,⟨hK,((((((hE.t Xd).t e5).t e6).t e7).t e8))⟩,by omega⟩
 ·refine q ?_
  replace hab:=hab.m hE
  refine Hp rfl rfl hab fun w5 hab e5 hz5=>?_
  refine q ?_
  replace hK:=hK.m e5
  rw[pe _ _ (by simpa using hi)]at hK
  exact wL
theorem yE{ts:List (List UInt8)}(hk:∀x∈ts,x.length=k)(h:bT A w (.slice p n c) ts.flatten)(hi:i<ts.length):
  bT A w (.slice (if c=i * k then p else p.map (·.add (i * k * 1))) (i * k+k-i * k) (c-i * k)) ts[i]:=by
 have key:∀(ts:List (List UInt8)),(∀x∈ts,x.length=k)→∀(i:Nat) (hi:i<ts.length),ts.flatten.drop (i * k)=ts[i]++(ts.drop (i+1)).flatten∧i * k+k≤ts.flatten.length:=by
  intro ts
  induction ts with
  |nil=>intro _ i hi;simp at hi
  |cons a l ih=>
   intro hk i hi
   have ha:a.length=k:=hk a (by simp)
   cases i with
   |zero=>simp[ha]
   |succ i=>
    obtain⟨h1,h2⟩:=ih (fun x hx=>hk x (by simp[hx])) i (by simpa using hi)
    have e:(i+1) * k=a.length+i * k:=by rw[ha,Nat.add_mul,Nat.one_mul,Nat.add_comm]
    refine⟨?_,?_⟩
    ·rw[List.flatten_cons,e,← List.drop_drop,List.drop_left,h1];simp
    ·rw[List.flatten_cons,List.length_append,e];omega
 obtain⟨h1,h2⟩:=key ts hk i hi
 have:=h.cut (i * k) (i * k+k-i * k) (by omega)
 rw[h1,Nat.add_sub_cancel_left]at this
 rw[Nat.add_sub_cancel_left]
 have e0:ts[i].length=k:=hk _ (List.getElem_mem hi)
 rw[List.take_append_of_le_length (by omega),List.take_of_length_le (by omega)]at this
 exact this
theorem mq:∀(l:List (List UInt8)),(∀x∈l,x.length=k)→l.flatten.length=l.length * k
 |[],_=>by simp
 |a::r,h=>by
  have:=mq r (fun x hx=>h x (by simp[hx]))
  simp[this,h a (by simp),Nat.add_mul];omega
theorem ue{r:List UInt8}{ts:List (List UInt8)}(hts:∀x∈ts,x.length=16)(hab:aH w ab [.slice none 0 0])(hne:rb<ab)(hpos:0<ts.length)(hh:fg hd ts.length (0x98::ts.flatten))(hR:Rd w rb (hd++((0x98::ts.flatten)++r))):
  ah TP 129 [.pointer (some ⟨ab,0,none⟩),.pointer (some ⟨rb,0,none⟩)] w fun u w'=>u= .nilIface∧(∃g,w.heap.size≤g∧aH w' ab [.slice (some ⟨g,0,none⟩) ts.length ts.length]∧aH w' g (ts.map bc).flatten)∧Rd w' rb r∧am (fun k=>k≠rb∧k≠ab) w w':=by
 have hle:=hh.le
 have hr0:=hab.lt
 have hl:=mq ts hts
 have hol:∀x∈ts.map bc,x.length=16:=by intro x hx;simp only[List.mem_map]at hx;obtain⟨t,ht,rfl⟩:=hx;simp[hts t ht]
 refine aR Tryz.func129 ?_
 have he:am (fun k=>k≠rb∧k≠ab) w w:=am.refl w
 refine q ?_
 refine Hm rfl (aG hh hR) fun w1 hR e1=>?_
 refine q ?_
 refine Hm rfl (aD hR) fun w2 hR e2=>?_
 refine q ?_
 refine cl rfl (dC (l:=ts.flatten) hR (by rw[hl];push_cast;rfl)) ?_
 rintro v3 w3 ⟨v,rfl,hY,hR,e3⟩
 obtain⟨pb,po,cp,rfl,hcp,hA,hD⟩:=hY.open (by omega)
 replace hab:=((hab.m e1).m e2).m e3
 refine q ?_
 refine Hq (bu Fo.h rfl rfl rfl)<|q ?_
 replace he:=((he.t e1).t e2).t e3
 have hs4:=he.s
 refine WL.l rfl (vZ (n:=ts.length) Fo.h rfl (by decide) rfl rfl rfl rfl (by omega) (by simp only[maxLen];omega)) ?_
 rintro v4 w4 ⟨rfl,hK,e4⟩
 refine q ?_
 replace hR:=hR.m e4
 replace hab:=hab.m e4
 replace hY:=hY.m e4
 replace hD:=hD.m e4
 replace he:=he.t e4
 refine WC.loop2 (ι:=Nat) [(0,_),(4,_),(8,_),(10,_),(56,_)] (fun i=>[(11,.int .i64 ((i * 16:Nat):Int)),(57,.int .i64 (i:Int))]) (fun i wi=>aH wi w3.heap.size (ej (ts.map bc) (List.replicate 16 (.int .u8 0)) i)∧am (fun k=>k≠w3.heap.size) w4 wi) (fun i=>ts.length-i) 0 sb sb (⟨by simpa[ej]using hK,am.refl _⟩) ?_
 intro i wi1 hh;obtain⟨hK,hE⟩:=hh
 rcases Nat.lt_or_ge i ts.length with hi|hi
 ·have hik:i * 16+16≤ts.length * 16:=by rw[← Nat.succ_mul];exact Nat.mul_le_mul_right _ hi
  replace hY:=hY.m hE
  have hZ:=yE hts hY hi
  refine q ?_
  replace hR:=hR.m hE
  replace hab:=hab.m hE
  replace hD:=hD.m hE
  refine WC.regionD (tt [0,1,2,3,4,5,6,7,8]++ff [9]) (am (fun k=>k≠w3.heap.size) _) mixed (by kernel_rfl) Vd<|q ?_
  refine He (fun _ hS=>ga Fo.h rfl)<|q ?_
  refine He (fun _ hS=>fJ Fo.h rfl rfl rfl (l:=i * 16) (h:=i * 16+16) rfl (by push_cast;rfl) (by omega) (by omega))<|WD.l rfl rfl (Bw Fb.h rfl (by omega) rfl (hK.m Xd) rfl hol (hZ.m Xd) (hts _ (List.getElem_mem hi)) (by decide) (by simp[hi])) ?_
  rintro v5 w5 ⟨rfl,hK,e5⟩
  refine⟨(Vd.t e5),?_⟩
  refine q ?_
  exact⟨i+1,sb,sb,⟨hK,(((hE.t Xd).t e5))⟩,by omega⟩
 ·refine q ?_
  replace hab:=hab.m hE
  refine Hp rfl rfl hab fun w5 hab e5 hz5=>?_
  refine q ?_
  replace hK:=hK.m e5
  rw[pe _ _ (by simpa using hi)]at hK
  exact wL
end Go.Proofs.LL
