/- Own laws of frames, operations and loops, and contracts of functions of the program. Conditions: those that each theorem states. -/
import Derived.Test.YtdgbmbjkbmpcbaaGreatDoorV28
set_option linter.all false
set_option maxRecDepth 20000
namespace Go.Proofs.LL
open Go Go.Proofs Go.RowKit
set_option maxHeartbeats 4000000
attribute [local irreducible] RunOp WL WC WDL WT WX
theorem gr{A:Prop}(h:A:=by
 rintro v2 w2 ⟨rfl,hW,e2⟩
 refine jD 5 rfl<|WC.ret ?_
 replace he:=(he.then e1).then e2
 exact fin1 rfl ⟨rfl,⟨_,by omega,by omega,hW⟩,he⟩):A:=h
theorem gh{A:Prop}(h:A:=by
 rintro v1 w1 ⟨rfl,hP,e1⟩
 refine jD 5 rfl<|WC.ret ?_
 replace he:=he.then e1
 exact fin1 rfl ⟨rfl,hP,he⟩):A:=h
theorem mA{A:Prop}(h:A:=by
 rintro v1 w1 ⟨rfl,hW,e1⟩
 refine jD 5 rfl<|WC.ret ?_
 replace he:=he.then e1
 exact fin1 rfl ⟨rfl,⟨_,by omega,by omega,hW⟩,he⟩):A:=h
theorem mz{A:Prop}(h:A:=by
 rintro v1 w1 ⟨rfl,hP,e1⟩
 refine jC 2 rfl<|WC.ret ?_
 replace he:=he.then e1
 exact fin1 rfl ⟨rfl,hP,he⟩):A:=h
theorem fY{w w':World}(h:Below w.heap.size w w'):Ext w w':=⟨h.os,h.tape,h.output,h.size,fun k hk _=>h.block k hk⟩
theorem im{t:List UInt8}{w:World}(hT:UT w)(hl:t.length≤9223372036854775807):
  Does TP 183 [str t] w fun r w'=>r= .bool (Lib.validD t)∧Ext w w':=by
 refine⟨Calls.mono (Any.utf8_ValidString Tryz.lays196 ⟨t.toArray⟩ w hl hT) fun e w' hr=>?_⟩
 obtain⟨rfl,hb⟩:=hr
 exact⟨_,rfl,rfl,fY hb⟩
theorem nR{B bb n:Nat}{t:List UInt8}{w:World}(hW:Wb B bb w n)(hT:UT w)(h1:bb<B)(h2:B≤w.heap.size)(hn:n≤1000)(hv:Lib.validD t=true)(hl:t.length≤131072):
  Does TP 268 [.pointer (some ⟨bb,0,none⟩),str t] w (oC B bb n · .nilIface w ·):=by
 have hval:=im hT (Nat.le_trans hl (by omega))
 rw[hv]at hval
 have hsz:(⟨t.toArray⟩:ByteArray).size=t.length:=rfl
 rcases Nat.lt_or_ge t.length 256 with h5|h5
 ·refine do1 Tryz.func268 ?_
  have he:Evo (fun k=>k<B∧k≠bb) w w:=Evo.refl w
  refine jA 8 rfl ?_
  refine cl rfl (hval) ?_
  rintro v1 w1 ⟨rfl,e1⟩
  refine jD 4 rfl<|jA 3 rfl<|WL.q rfl (r_lens Fb.h rfl)<|jD 6 rfl<|lT rfl rfl<|jD 7 rfl<|WL.q rfl (r_cvInt Fo.h rfl) ?_
  replace he:=he.then e1
  have hs2:=he.size
  refine WL.l rfl (ll [_,_]) ?_
  rintro _ w2 ⟨rfl,hb2,e2⟩
  replace hW:=(hW.mono e1).mono e2
  refine cl rfl (bX hW h1 (by have:=e1.size;have:=e2.size;omega) (by omega) hb2 (b9 (z1:=161))) ?_
  rintro v3 w3 ⟨rfl,hW,e3⟩
  refine jD 5 rfl ?_
  refine cl rfl (fK hW h1 (by have:=e1.size;have:=e2.size;have:=e3.size;omega) (by omega) (by omega)) ?_
  rintro v4 w4 ⟨rfl,hW,e4⟩
  refine jD 5 rfl<|WC.ret ?_
  replace he:=((he.then e2).then e3).then e4
  exact fin1 rfl ⟨rfl,⟨_,by omega,by omega,hW⟩,he⟩
 ·refine do1 Tryz.func268 ?_
  have he:Evo (fun k=>k<B∧k≠bb) w w:=Evo.refl w
  refine jA 8 rfl ?_
  refine cl rfl (hval) ?_
  rintro v1 w1 ⟨rfl,e1⟩
  refine jD 4 rfl<|jA 3 rfl<|WL.q rfl (r_lens Fb.h rfl)<|jD 6 rfl<|lF rfl rfl<|jD 6 rfl ?_
  refine WL.q rfl (r_cvIntE Fo.h rfl (wu64 (by omega) (by omega))) ?_
  refine lT rfl rfl<|jD 6 rfl ?_
  replace hW:=hW.mono e1
  refine cl rfl (aw (z:=177) hW h1 (by have:=e1.size;omega) (by omega)) ?_
  rintro v2 w2 ⟨rfl,hW,e2⟩
  refine jD 5 rfl<|WL.q rfl (r_cvInt Fo.h rfl) ?_
  refine cl rfl (dA hW h1 (by have:=e1.size;have:=e2.size;omega) (by omega)) ?_
  rintro v3 w3 ⟨rfl,hW,e3⟩
  refine jD 5 rfl ?_
  refine cl rfl (fK hW h1 (by have:=e1.size;have:=e2.size;have:=e3.size;omega) (by omega) (by omega)) ?_
  rintro v4 w4 ⟨rfl,hW,e4⟩
  refine jD 5 rfl<|WC.ret ?_
  replace he:=(((he.then e1).then e2).then e3).then e4
  exact fin1 rfl ⟨rfl,⟨_,by omega,by omega,hW⟩,he⟩
theorem oY{m:Nat}(h:m<256):∃l2:List UInt8,l2.length=2∧[Value.int .u8 80,Value.int .u8 (m:Int)]=bc l2:=by
 have h9:(UInt8.ofNat m).toNat=m:=by rw[UInt8.toNat_ofNat'];omega
 exact⟨[80,UInt8.ofNat m],rfl,by show[_,Value.int .u8 (m:Int)]=[_,Value.int .u8 ((UInt8.ofNat m).toNat:Int)];rw[h9];rfl⟩
theorem mL{B bb n:Nat}{t:List UInt8}{w:World}(hW:Wb B bb w n)(h1:bb<B)(h2:B≤w.heap.size)(hn:n≤1000)(ht:t.length=16):
  Does TP 378 [.agg (bc t).toArray,.pointer (some ⟨bb,0,none⟩)] w (oC B bb n · .nilIface w ·):=by
 obtain⟨v,l,hl,hb,hO⟩:=hW
 have hbe:=hO.below
 refine do1 Tryz.func378 ?_
 have he:Evo (fun k=>k<B∧k≠bb) w w:=Evo.refl w
 refine jA 2 rfl ?_
 have hs1:=he.size
 refine bx rfl ?_
 rintro _ w1 ⟨rfl,hb1,e1⟩
 refine jD 5 rfl ?_
 replace hb:=hb.mono e1
 replace hO:=hO.mono e1
 refine cl rfl (dX (z:=152) hl hb hO h1 (by have:=e1.size;omega) (by omega)) ?_
 rintro v2 w2 ⟨rfl,hW,e2⟩
 have e2:=e2.weaken (B:=fun k=>(k<B∨k=w.heap.size)∧k≠bb) (fun k _ hk=>⟨by rcases hk.1 with h|h;exact hbe.2 k h;subst h;exact hbe.1,hk.2⟩)
 refine jD 4 rfl<|WL.q rfl (r_sliceArr Fo.h rfl) ?_
 replace hb1:=hb1.mono e2
 refine cl rfl (lh hW h1 (by have:=e1.size;have:=e2.size;omega) (by omega) (IsB.blk hb1 ht) ht (by omega)) ?_
 rintro v3 w3 ⟨rfl,hW,e3⟩
 refine jD 5 rfl<|WC.ret ?_
 replace he:=((he.then e1).then e2).then e3
 exact fin1 rfl ⟨rfl,⟨_,by omega,by omega,hW⟩,he⟩
theorem jI{B bb n:Nat}{k:Int}{m:Nat}{t:List UInt8}{w:World}(hW:Wb B bb w n)(hT:UT w)(h1:bb<B)(h2:B≤w.heap.size)(hn:n≤1000)(hk:keyR k)(hN:NumOK k m)(ht:k=17→t.length=16)(hv:k=19→Lib.validD t=true∧t.length≤131072):
  Does TP 245 [.pointer (some ⟨bb,0,none⟩),.iface (ktyK k) (kval k m t)] w (oC B bb n · .nilIface w ·):=by
 rcases hk with rfl|rfl|rfl|rfl|rfl|rfl|rfl|rfl|rfl|rfl|rfl|rfl
 ·show Does TP _ [_,.iface 4 (.bool (m !=0))] _ _
  cases hm0:(m !=0)
  ·refine do1 Tryz.func245 ?_
   have he:Evo (fun k=>k<B∧k≠bb) w w:=Evo.refl w
   refine jA 12 rfl<|WL.q rfl (r_ifeqSome Fb.h rfl)<|jD 4 rfl<|WL.q rfl (r_assertIs Fb.h rfl)<|jD 15 rfl ?_
   refine cl rfl (aw (z:=66) hW h1 (by omega) (by omega)) ?_
   exact mA
  ·refine do1 Tryz.func245 ?_
   have he:Evo (fun k=>k<B∧k≠bb) w w:=Evo.refl w
   refine jA 12 rfl<|WL.q rfl (r_ifeqSome Fb.h rfl)<|jD 4 rfl<|WL.q rfl (r_assertIs Fb.h rfl)<|jD 15 rfl ?_
   refine cl rfl (aw (z:=65) hW h1 (by omega) (by omega)) ?_
   exact mA
 ·show Does TP _ [_,.iface 5 (.int .u8 m)] _ _
  skip
  refine do1 Tryz.func245 ?_
  have he:Evo (fun k=>k<B∧k≠bb) w w:=Evo.refl w
  refine jA 12 rfl<|WL.q rfl (r_ifeqSome Fb.h rfl)<|jD 74 rfl<|WL.q rfl (r_assertIs Fb.h rfl)<|jD 11 rfl ?_
  have hs1:=he.size
  refine WL.l rfl (ll [_,_]) ?_
  rintro _ w1 ⟨rfl,hb1,e1⟩
  replace hW:=hW.mono e1
  refine cl rfl (bX hW h1 (by have:=e1.size;omega) (by omega) hb1 (oY (hN.2.1 rfl))) ?_
  exact gr
 ·show Does TP _ [_,.iface 228 (.int .u16 m)] _ _
  skip
  refine do1 Tryz.func245 ?_
  have he:Evo (fun k=>k<B∧k≠bb) w w:=Evo.refl w
  refine jA 12 rfl<|WL.q rfl (r_ifeqSome Fb.h rfl)<|jD 60 rfl<|WL.q rfl (r_assertIs Fb.h rfl)<|jD 11 rfl ?_
  refine cl rfl (aw (z:=96) hW h1 (by omega) (by omega)) ?_
  rintro v1 w1 ⟨rfl,hW,e1⟩
  refine jD 4 rfl ?_
  refine cl rfl (gS hW h1 (by have:=e1.size;omega) (by omega)) ?_
  exact gr
 ·show Does TP _ [_,.iface 22 (.int .u32 m)] _ _
  skip
  refine do1 Tryz.func245 ?_
  have he:Evo (fun k=>k<B∧k≠bb) w w:=Evo.refl w
  refine jA 12 rfl<|WL.q rfl (r_ifeqSome Fb.h rfl)<|jD 46 rfl<|WL.q rfl (r_assertIs Fb.h rfl)<|jD 11 rfl ?_
  refine cl rfl (n3 hW h1 (by omega) (by omega) (by omega)) ?_
  exact gh
 ·show Does TP _ [_,.iface 27 (.int .u64 m)] _ _
  skip
  refine do1 Tryz.func245 ?_
  have he:Evo (fun k=>k<B∧k≠bb) w w:=Evo.refl w
  refine jA 12 rfl<|WL.q rfl (r_ifeqSome Fb.h rfl)<|jD 32 rfl<|WL.q rfl (r_assertIs Fb.h rfl)<|jD 11 rfl ?_
  refine cl rfl (nY hW h1 (by omega) (by omega) (by omega)) ?_
  exact gh
 ·show Does TP _ [_,.iface 213 (.int .i8 (IntKind.i64.wrap m))] _ _
  skip
  refine do1 Tryz.func245 ?_
  have he:Evo (fun k=>k<B∧k≠bb) w w:=Evo.refl w
  refine jA 12 rfl<|WL.q rfl (r_ifeqSome Fb.h rfl)<|jD 102 rfl<|WL.q rfl (r_assertIs Fb.h rfl)<|jD 11 rfl<|WL.q rfl (r_cvInt Fo.h rfl) ?_
  have hs1:=he.size
  refine WL.l rfl (ll [_,_]) ?_
  rintro _ w1 ⟨rfl,hb1,e1⟩
  replace hW:=hW.mono e1
  refine cl rfl (bX hW h1 (by have:=e1.size;omega) (by omega) hb1 (b9 (z1:=81))) ?_
  exact gr
 ·show Does TP _ [_,.iface 217 (.int .i16 (IntKind.i64.wrap m))] _ _
  skip
  refine do1 Tryz.func245 ?_
  have he:Evo (fun k=>k<B∧k≠bb) w w:=Evo.refl w
  refine jA 12 rfl<|WL.q rfl (r_ifeqSome Fb.h rfl)<|jD 116 rfl<|WL.q rfl (r_assertIs Fb.h rfl)<|jD 11 rfl ?_
  refine cl rfl (aw (z:=97) hW h1 (by omega) (by omega)) ?_
  rintro v1 w1 ⟨rfl,hW,e1⟩
  refine jD 4 rfl<|WL.q rfl (r_cvInt Fo.h rfl) ?_
  refine cl rfl (gS hW h1 (by have:=e1.size;omega) (by omega)) ?_
  exact gr
 ·show Does TP _ [_,.iface 21 (.int .i32 (IntKind.i64.wrap m))] _ _
  skip
  refine do1 Tryz.func245 ?_
  have he:Evo (fun k=>k<B∧k≠bb) w w:=Evo.refl w
  refine jA 12 rfl<|WL.q rfl (r_ifeqSome Fb.h rfl)<|jD 130 rfl<|WL.q rfl (r_assertIs Fb.h rfl)<|jD 11 rfl ?_
  refine cl rfl (nJ hW h1 (by omega) (by omega)) ?_
  exact gh
 ·show Does TP _ [_,.iface 2 (.int .i64 (IntKind.i64.wrap m))] _ _
  skip
  refine do1 Tryz.func245 ?_
  have he:Evo (fun k=>k<B∧k≠bb) w w:=Evo.refl w
  refine jA 12 rfl<|WL.q rfl (r_ifeqSome Fb.h rfl)<|jD 144 rfl<|WL.q rfl (r_assertIs Fb.h rfl)<|jD 11 rfl ?_
  refine cl rfl (nr hW h1 (by omega) (by omega)) ?_
  exact gh
 ·show Does TP _ [_,.iface 251 (.agg (tm (IntKind.i64.wrap m)).toArray)] _ _
  skip
  refine do1 Tryz.func245 ?_
  have he:Evo (fun k=>k<B∧k≠bb) w w:=Evo.refl w
  refine jA 12 rfl<|WL.q rfl (r_ifeqSome Fb.h rfl)<|jD 270 rfl<|WL.q rfl (r_assertIs Fb.h rfl)<|jD 6 rfl ?_
  have hs1:=he.size
  refine al ?_
  rintro _ w1 ⟨rfl,hb1,e1⟩
  refine WL.l0 (lsw rfl rfl hb1) ?_
  rintro _ w2 ⟨hb1,e2,hz2⟩
  refine jD 3 rfl<|la rfl hb1 ?_
  replace hW:=hW.mono (e1.then e2)
  refine cl rfl (l8 hW h1 (by have:=e1.size;have:=e2.size;omega) (by omega) (i64_range _).1 (i64_range _).2) ?_
  rintro v3 w3 ⟨rfl,hP,e3⟩
  refine jD 5 rfl<|WC.ret ?_
  replace he:=(he.then (e1.then e2)).then e3
  exact fin1 rfl ⟨rfl,hP,he⟩
 ·show Does TP _ [_,.iface 319 (.agg (bc t).toArray)] _ _
  skip
  refine do1 Tryz.func245 ?_
  have he:Evo (fun k=>k<B∧k≠bb) w w:=Evo.refl w
  refine jA 12 rfl<|WL.q rfl (r_ifeqSome Fb.h rfl)<|jD 522 rfl<|WL.q rfl (r_assertIf Fb.h rfl)<|jD 12 rfl ?_
  refine WL.l rfl (l_invoke Fo.h Fb.h rfl rfl (mL hW h1 (by omega) (by omega) (ht rfl))) ?_
  exact mz
 ·show Does TP _ [_,.iface 9 (str t)] _ _
  skip
  refine do1 Tryz.func245 ?_
  have he:Evo (fun k=>k<B∧k≠bb) w w:=Evo.refl w
  refine jA 12 rfl<|WL.q rfl (r_ifeqSome Fb.h rfl)<|jD 186 rfl<|WL.q rfl (r_assertIs Fb.h rfl)<|jD 12 rfl ?_
  refine cl rfl (nR hW hT h1 (by omega) (by omega) (hv rfl).1 (hv rfl).2) ?_
  exact mz
theorem dP{A:Nat→Prop}{v:Value}{l:List UInt8}{w:World}(h:IsB A w v l)(hl:l.length≤1000000000):
  Does TP 24 [v] w fun r w'=>(∃N,w.heap.size≤N∧Own N 5 1 w' r l.length (bc l))∧Ext w w':=by
 refine do1 Tryz.func24 ?_
 have he:Evo (fun _=>True) w w:=Evo.refl w
 refine jA 6 rfl ?_
 have hs1:=he.size
 refine WL.l rfl (l_lit0 Fo.h) ?_
 rintro _ w1 ⟨rfl,ho1,e1⟩
 refine jC 1 rfl ?_
 replace h:=h.mono e1
 refine WL.l rfl (l_app Fo.h rfl rfl ho1 (Src.isB Fb.h h) (by have:=e1.size;omega) (by simp only[maxLen];omega) (by omega)) ?_
 rintro v2 w2 ⟨hO,e2⟩
 refine jC 2 rfl<|WC.ret ?_
 rw[Nat.zero_add,List.nil_append]at hO
 replace he:=(he.then e1).then e2
 exact fin1 rfl ⟨⟨w.heap.size,Nat.le_refl _,hO⟩,he⟩
theorem kr{B bb n:Nat}{w:World}(hW:Wb B bb w n)(hn:n≤1000000):
  Does TP 27 [.pointer (some ⟨bb,0,none⟩)] w fun r w'=>(∃l:List UInt8,l.length=n∧IsB (fun k=>B≤k) w' r l)∧Ext w w':=by
 obtain⟨v,l,hl,hb,hO⟩:=hW
 have hI:IsB (fun k=>B≤k) w v l:=(hl▸hO).toB
 obtain⟨p,c,rfl,hc,hI2⟩:=hI
 refine do1 Tryz.func27 ?_
 refine jA 4 rfl ?_
 refine WC.seq<|WC.regionD (tt [0,1,2,3,4,5,6,7,8,9]) (Ext _) mixed (by kernel_rfl) (Ext.drew _) ?_
 refine jE 3 rfl<|dl rfl hb rfl<|jE 3 rfl<|dl rfl hb rfl ?_
 refine WD.q rfl (fun _ hS=>r_slicel (l:=0) Fo.h rfl rfl rfl (by omega)) ?_
 refine jE 1 rfl<|WD.nil<|WC.ret ?_
 have h7:=(show IsB (fun k=>B≤k) w (.slice p l.length c) l from⟨p,c,rfl,hc,hI2⟩).cut 0 l.length (by omega)
 have h8:IsB (fun k=>B≤k) w (Value.slice (if c=0 then p else p.map (·.add (0 * 1))) (l.length-0) (c-0)) l:=by simpa using h7
 exact fin1 rfl ⟨⟨l,hl,h8.mono (Ext.drew w)⟩,ch⟩
theorem gi{k:Int}{m:Nat}{t:List UInt8}{w:World}(hT:UT w)(hk:keyR k)(hN:NumOK k m)(ht:k=17→t.length=16)(hv:k=19→Lib.validD t=true∧t.length≤131072):
  Does TP 212 [.iface (ktyK k) (kval k m t)] w fun r w'=>∃v l N,r= .tuple #[v,.bool true]∧Own N 5 1 w' v l.length (bc l)∧w.heap.size≤N∧l.length≤200000∧Ext w w':=by
 have hTl:=hT.lt
 refine do2 Tryz.func212 ?_
 have he:Evo (fun b=>b<w.heap.size) w w:=Evo.refl w
 refine jA 7 rfl<|WL.q rfl (r_bld (cs:=[_,_]) Fo.h rfl rfl) ?_
 have hs1:=he.size
 refine bx rfl ?_
 rintro _ w1 ⟨rfl,hb1,e1⟩
 refine jD 7 rfl ?_
 replace hT:=hT.mono e1
 refine cl rfl (jI (B:=w1.heap.size) (n:=0) ⟨_,[],rfl,hb1,Own.nil _ _ _ _⟩ hT hb1.lt (Nat.le_refl _) (by omega) hk hN ht hv) ?_
 rintro v2 w2 ⟨rfl,⟨m2,hm1,hm2,hW⟩,e2⟩
 have hq1:=e1.size
 refine WL.q rfl (r_ifneNil Fb.h rfl)<|jD 3 rfl<|jA 3 rfl ?_
 refine cl rfl (kr hW (by omega)) ?_
 rintro v3 w3 ⟨⟨l,hl,hI⟩,e3⟩
 refine cl rfl (dP hI (by omega)) ?_
 rintro v4 w4 ⟨⟨N,hN2,hO⟩,e4⟩
 refine jC 3 rfl<|WC.ret ?_
 replace he:=(((he.then e1).then e2).then e3).then e4
 exact fin2 rfl rfl ⟨_,l,N,rfl,hO,by have:=e1.size;have:=e2.size;have:=e3.size;omega,by omega,he.weaken fun k hk _=>hk⟩
end Go.Proofs.LL
namespace Go.Proofs.LL
open Go Go.Proofs Go.RowKit Go.Lib Go.Sort
set_option maxHeartbeats 4000000
attribute [local irreducible] RunOp WL WC WDL WT WX
theorem m9{blk c Bs size:Nat}{W:World}{G:Nat→List UInt8}(hs:W.cell? ⟨Bs,0,none⟩=some (.slice (some ⟨blk,0,none⟩) size c))(hc:∀t,t<size→W.cell? ⟨blk,0+t * 13,none⟩=some (str (G t))){i j:Nat}(hi:i<size)(hj:j<size):
  Does TP 214 [.int .i64 (i:Int),.int .i64 (j:Int),.pointer (some ⟨Bs,0,none⟩)] W fun r w'=>r= .bool (ltStr (G i) (G j))∧w'=W.drew:=by
 have hci:=hc i hi
 have hcj:=hc j hj
 refine do1 Tryz.func214 ?_
 refine jA 4 rfl ?_
 refine WC.seq<|WC.regionD (tt [0,1,2,3,4,5,6,7,8,9,10,11]) (Ext _) mixed (by kernel_rfl) (Ext.drew _) ?_
 refine WD.q rfl (fun _ hS=>r_load Fb.h rfl hS hs) ?_
 refine jE 1 rfl ?_
 refine WD.q rfl (fun _ hS=>r_idx Fo.h rfl rfl rfl hi) ?_
 refine jE 1 rfl ?_
 refine WD.q rfl (fun _ hS=>r_load Fb.h rfl hS hci) ?_
 refine WD.q rfl (fun _ hS=>r_load Fb.h rfl hS hs) ?_
 refine jE 1 rfl ?_
 refine WD.q rfl (fun _ hS=>r_idx Fo.h rfl rfl rfl hj) ?_
 refine jE 1 rfl ?_
 refine WD.q rfl (fun _ hS=>r_load Fb.h rfl hS hcj) ?_
 refine WD.q rfl (fun _ hS=>r_stlss rfl rfl) ?_
 refine jE 1 rfl<|WD.nil<|WC.ret ?_
 exact fin1 rfl ⟨rfl,rfl⟩
def gk:Type:= {p:List UInt8×List Value // p.2.length=12∧∀v∈p.2,v.oneCell'=true}
instance:Inhabited gk:=⟨⟨([],List.replicate 12 .nilIface),by simp,by intro v hv;rw[List.mem_replicate]at hv;rw[hv.2];rfl⟩⟩
def aI(r:gk):List Value:=str r.1.1::r.1.2
def r3(a b:gk):Bool:=ltStr a.1.1 b.1.1
theorem bS(r:gk):(aI r).length=13:=by simp[aI,r.2.1]
theorem mj(r:gk):∀v∈aI r,v.oneCell'=true:=by
 intro v hv
 rcases List.mem_cons.1 hv with rfl|hv
 ·rfl
 ·exact r.2.2 v hv
theorem nH:SWO r3 where
 irrefl x:=swo_ltStr.irrefl _
 trans x y z:=swo_ltStr.trans _ _ _
 ntrans x y z:=swo_ltStr.ntrans _ _ _
noncomputable def k3:TypeInfo:=(TP.info? 420).get (by kernel_rfl)
noncomputable def iC:TypeInfo:=(TP.info? 423).get (by kernel_rfl)
theorem pV(n:Nat)(h2:2≤n):Lib.swapperK n iC 25=9:=by
 have a:iC.hasPointers=true:=by kernel_rfl
 have b:iC.bytes=192:=by kernel_rfl
 have c:(n==0)=false:=by simp;omega
 have d:(n==1)=false:=by simp;omega
 simp[Lib.swapperK,a,b,c,d]
theorem jd{blk c Bs:Nat}{d:Array gk}{w:World}(hH:HoldsK aI 13 w blk 0 d)(hblk:blk<w.heap.size)(hBs:w.cell? ⟨Bs,0,none⟩=some (.slice (some ⟨blk,0,none⟩) d.size c))(hB2:Bs≠blk):
  LessReadsK TP 214 #[.pointer (some ⟨Bs,0,none⟩)] aI 13 r3 blk 0 d.size w:=by
 intro m os dk hs i j hi hj
 have hB1:Bs<w.heap.size:=lt_of_cell hBs
 have e:sortWorldK aI 13 w blk 0 m dk os=putRowK aI 13 (grow (Sort.ahead w m) os) blk 0 dk:=by
  unfold sortWorldK;rw[putRowK_grow _ _ (Sort.ahead w m) _ blk 0 _ hblk]
 have hHg:HoldsK aI 13 (grow (Sort.ahead w m) os) blk 0 d:=holdsK_grow _ _ _ _ blk 0 d hblk (holdsK_ahead _ _ _ _ _ _ _ hH)
 have hd:=m9 (blk:=blk) (c:=c) (Bs:=Bs) (size:=d.size) (W:=sortWorldK aI 13 w blk 0 m dk os) (G:=fun t=>dk[t]!.1.1) (by
  rw[e,cell?_putRowK_other _ _ _ blk 0 dk _ (by exact hB2),cell?_grow _ _ _ (by exact hB1)];exact hBs) (fun t ht=>by
  rw[e]
  have h:=((holdsK_putRowK _ _ _ blk 0 d dk hHg hs).cell (i:=t) (c:=0) (by omega) (by omega)).1
  simpa[aI]using h) hi hj
 refine Calls.mono hd.calls fun e w' hr=>?_
 obtain⟨v,rfl,rfl,rfl⟩:=hr
 exact⟨rfl,1,rfl⟩
theorem jb:TP.info? 420=some k3:=by unfold k3;exact(Option.some_get _).symm
theorem jL:TP.info? 423=some iC:=by unfold iC;exact(Option.some_get _).symm
theorem lY{blk c Bs:Nat}{d:Array gk}{w:World}(h2:2≤d.size)(hsz:d.size≤65536)(hH:HoldsK aI 13 w blk 0 d)(hblk:blk<w.heap.size)(hBs:w.cell? ⟨Bs,0,none⟩=some (.slice (some ⟨blk,0,none⟩) d.size c))(hB2:Bs≠blk):
  Calls TP 213 #[.iface 420 (.slice (some ⟨blk,0,none⟩) d.size c),.func (.func 214) #[] #[.pointer (some ⟨Bs,0,none⟩)]] w fun e w'=>
   e= .returned (.tuple #[])∧∃d' n os,PermIn 0 d.size d d'∧SortedIn r3 0 d.size d'∧w'=grow (putRowK aI 13 (Sort.ahead w n) blk 0 d') os:=
 Any.sort_Slice_cells_sorted Tryz.gl6 420 423 k3 iC jb (by kernel_rfl) (by kernel_rfl) jL 25 (fun _=>by kernel_rfl) aI 13 bS (by kernel_rfl) (fun _=>by kernel_rfl)
  mj r3 nH 214 _
  (enters_of Tryz.func214 (by kernel_rfl) rfl) blk 0 c d h2 (by omega) 297 (by rw[pV _ h2];kernel_rfl) false
  (fun args W=>run_callFunc_extern Tryz.func297 (by kernel_rfl) (by kernel_rfl) (by kernel_rfl) (e:=Extern.ReflectliteSwapper.swap false) (by kernel_rfl) args W) w (jd hH hblk hBs hB2) hH hblk
theorem kH{p:Option Addr}{n c:Nat}{lf:Fn}{la lb:Array Value}{w:World}(h1:n≤1):
  Calls TP 213 #[.iface 420 (.slice p n c),.func lf la lb] w fun e w'=>e= .returned (.tuple #[])∧∃os,w'=grow w os:=by
 rcases Nat.eq_zero_or_pos n with h0|h0
 ·subst h0
  exact Any.sort_Slice_tiny Tryz.gl6 420 423 k3 iC jb (by kernel_rfl) (by kernel_rfl) jL 25 (fun _=>by kernel_rfl) p 0 c h1 289 (by kernel_rfl) lf la lb w
 ·have h11:n=1:=by omega
  subst h11
  exact Any.sort_Slice_tiny Tryz.gl6 420 423 k3 iC jb (by kernel_rfl) (by kernel_rfl) jL 25 (fun _=>by kernel_rfl) p 1 c h1 290 (by kernel_rfl) lf la lb w
theorem g9:∀(rows:List gk) (t:Nat),t<rows.length * 13→(rows.flatMap aI)[t]?=some ((aI rows[t / 13]!)[t%13]!)
 |[],t,h=>by simp at h
 |r::rs,t,h=>by
  rw[List.flatMap_cons]
  rcases Nat.lt_or_ge t 13 with h1|h1
  ·rw[List.getElem?_append_left (by rw[bS];exact h1),Nat.div_eq_of_lt h1,Nat.mod_eq_of_lt h1]
   simp[bS,h1]
  ·obtain⟨u,rfl⟩:∃u,t=u+13:=⟨t-13,by omega⟩
   rw[List.getElem?_append_right (by rw[bS];exact h1),bS,Nat.add_sub_cancel,g9 rs u (by simp at h;omega)]
   rw[Nat.add_div_right u (by decide),Nat.add_mod_right]
   simp
theorem aJ(rows:List gk):(rows.flatMap aI).length=rows.length * 13:=by
 induction rows with
 |nil=>rfl
 |cons r rs ih=>rw[List.flatMap_cons,List.length_append,ih,bS,List.length_cons];omega
theorem eR(rows:List gk):flatK aI 13 rows.toArray=(rows.flatMap aI).toArray:=by
 refine ext_get! (by rw[size_flatK,List.size_toArray,List.size_toArray,aJ]) fun t ht=>?_
 have ht':t<rows.length * 13:=by simpa using ht
 rw[get_flatK _ _ _ t (by simpa using ht')]
 have h:=g9 rows t ht'
 have h2:t<(rows.flatMap aI).length:=by rw[aJ];exact ht'
 rw[List.getElem?_eq_getElem h2]at h
 have h3:=Option.some.inj h
 rw[getElem!_pos _ t (by simpa using h2)]
 simp only[List.getElem_toArray]
 rw[h3]
 simp
theorem jN{w:World}{g:Nat}{cur:Array Value}{e:TypeId}{rows:List gk}(hb:w.heap[g]?=some (.cells cur e (0,0)))(ht:cur.toList.take (rows.length * 13)=rows.flatMap aI):HoldsK aI 13 w g 0 rows.toArray:=by
 unfold HoldsK
 rw[eR]
 intro j hj
 have hj':j<rows.length * 13:=by rw[← aJ];exact(by simpa only[List.size_toArray]using hj)
 have hj2:j<(rows.flatMap aI).length:=by rw[aJ];exact hj'
 refine⟨?_,by simp[World.frozen?,hb]⟩
 have h1:(cur.toList.take (rows.length * 13))[j]?=(rows.flatMap aI)[j]?:=by rw[ht]
 rw[List.getElem?_take_of_lt hj',Array.getElem?_toList,List.getElem?_eq_getElem hj2]at h1
 simp only[World.cell?,hb,Nat.zero_add]
 simp only[Option.isSome_none,Bool.false_eq_true,if_false]
 rw[h1,getElem!_pos _ j (by simpa using hj2)]
 simp
theorem lq{w:World}{g n:Nat}{os:Array Obj}{cur F:Array Value}{e:TypeId}{fr:Nat×Nat}(hb:w.heap[g]?=some (.cells cur e fr)):
  (grow (putRow id (Sort.ahead w n) g 0 F) os).heap[g]?=some (.cells (putCells id 0 F cur) e fr):=by
 have hg:g<w.heap.size:=(Array.getElem?_eq_some_iff.1 hb).1
 rw[heap_grow_old _ _ (by simpa using hg)]
 simp[putRow,mapBlock,Sort.ahead,Array.getElem?_modify,hb,onCells]
theorem nM{w:World}{g n:Nat}{os:Array Obj}(F:Array Value):Evo (fun k=>k≠g) w (grow (putRow id (Sort.ahead w n) g 0 F) os):=by
 refine⟨rfl,rfl,rfl,by simp,fun k hk hne=>?_⟩
 rw[heap_grow_old _ _ (by simpa using hk)]
 simp[putRow,mapBlock,Sort.ahead,Array.getElem?_modify,Ne.symm hne]
theorem lJ(cur:Array Value)(l:List Value)(h:l.length≤cur.size):(putCells id 0 l.toArray cur).toList.take l.length=l:=by
 apply List.ext_getElem?
 intro j
 by_cases hj:j<l.length
 ·rw[List.getElem?_take_of_lt hj,Array.getElem?_toList]
  simp[putCells,hj,show j<cur.size by omega]
 ·rw[List.getElem?_take_eq_none (by omega),List.getElem?_eq_none (by omega)]
theorem kC{rows:List gk}{d':Array gk}(h:PermIn 0 rows.toArray.size rows.toArray d'):d'.toList.Perm rows:=by
 obtain⟨h1,_,h3⟩:=h
 have h4:d'.size=rows.length:=by simpa using h1
 have e1:d'.extract 0 rows.toArray.size=d':=by rw[show rows.toArray.size=d'.size from h1.symm];simp
 rw[e1]at h3
 simpa using h3
theorem f7{B Bs:Nat}{sv:Value}{rows:List gk}{w:World}(hO:Own B 423 13 w sv rows.length (rows.flatMap aI))(hb:Blk w Bs [sv])(hbb:Bs<B)(hn:rows.length≤65536):
  Does TP 213 [.iface 420 sv,.func (.func 214) #[] #[.pointer (some ⟨Bs,0,none⟩)]] w fun r w'=>r= .tuple #[]∧(∃rows':List gk,rows'.Perm rows∧Own B 423 13 w' sv rows'.length (rows'.flatMap aI))∧Evo (fun k=>sv.ownBlock≠some k) w w':=by
 have hsmall:∀ {p:Option Addr} {n c:Nat},sv= .slice p n c→n≤1→Does TP 213 [.iface 420 sv,.func (.func 214) #[] #[.pointer (some ⟨Bs,0,none⟩)]] w fun r w'=>r= .tuple #[]∧(∃rows':List gk,rows'.Perm rows∧Own B 423 13 w' sv rows'.length (rows'.flatMap aI))∧Evo (fun k=>sv.ownBlock≠some k) w w':=by
  intro p n c hsv h1
  refine⟨Calls.mono (hsv▸kH (p:=p) (c:=c) (la:= #[]) (lb:= #[.pointer (some ⟨Bs,0,none⟩)]) (lf:= .func 214) (w:=w) h1) fun e w' hr=>?_⟩
  obtain⟨rfl,os,rfl⟩:=hr
  have hE:Ext w (grow w os):=⟨rfl,rfl,rfl,by simp,fun k hk _=>heap_grow_old _ _ hk⟩
  exact⟨_,rfl,rfl,⟨rows,.refl _,hO.mono hE⟩,hE.weaken fun _ _ _=>trivial⟩
 have hO0:=hO
 rcases hO.row.2 with⟨rfl,h2⟩|⟨g,cap,cur,rfl,h4,h5,h6,h7,h8,h9⟩
 ·exact hsmall rfl (by omega)
 ·rcases Nat.lt_or_ge rows.length 2 with h2|h2
  ·exact hsmall rfl (by omega)
  ·have hg:g<w.heap.size:=(Array.getElem?_eq_some_iff.1 h5).1
   have hH:=jN (rows:=rows) h5 h9
   have hc:=lY (blk:=g) (c:=cap) (Bs:=Bs) (d:=rows.toArray) (w:=w) (by simpa using h2) (by simpa using hn) hH hg (by simpa using hb.get (j:=0) rfl) (by omega)
   rw[show rows.toArray.size=rows.length from List.size_toArray]at hc
   refine⟨Calls.mono hc fun e w' hr=>?_⟩
   obtain⟨rfl,d',n,os,hp,_,rfl⟩:=hr
   have hp2:d'.toList.Perm rows:=kC (by rw[List.size_toArray];exact hp)
   have hlen:d'.toList.length=rows.length:=hp2.length_eq
   have hF:flatK aI 13 d'=(d'.toList.flatMap aI).toArray:=by rw[← eR]
   refine⟨_,rfl,rfl,⟨d'.toList,hp2,⟨⟨by rw[aJ],.inr ⟨g,cap,putCells id 0 (d'.toList.flatMap aI).toArray cur,by rw[hlen],h4,?_,by omega,h7,by simpa[putCells]using h8,?_⟩⟩⟩⟩,?_⟩
   ·unfold putRowK;rw[hF];exact lq h5
   ·rw[← aJ];exact lJ _ _ (by rw[aJ,hlen];omega)
   ·exact(nM _).weaken fun k _ hk=>by simpa[Value.ownBlock,eq_comm]using hk
end Go.Proofs.LL
