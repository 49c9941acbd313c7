/- Contracts of functions and own laws. Conditions: those that each theorem states. -/
import Derived.Test.YtdgbmbjkbmpcbaaGreatDoorV28
set_option linter.all false
set_option autoImplicit true
set_option relaxedAutoImplicit true
set_option maxRecDepth 20000
namespace Go.Proofs.LL
open Go Go.Proofs Go.RowKit
set_option maxHeartbeats 4000000
attribute [local irreducible] ar WL WC cq WT WX
theorem rQ{A:Prop}(h:A:=by
 rintro v2 w2 ⟨rfl,hW,e2⟩
 refine jD 5 rfl<|WC.ret ?_
 replace he:=(he.t e1).t e2
 exact aw rfl ⟨rfl,⟨_,by omega,by omega,hW⟩,he⟩):A:=h
theorem rR{A:Prop}(h:A:=by
 rintro v1 w1 ⟨rfl,hP,e1⟩
 refine jD 5 rfl<|WC.ret ?_
 replace he:=he.t e1
 exact aw rfl ⟨rfl,hP,he⟩):A:=h
theorem Au{A:Prop}(h:A:=by
 rintro v1 w1 ⟨rfl,hW,e1⟩
 refine jD 5 rfl<|WC.ret ?_
 replace he:=he.t e1
 exact aw rfl ⟨rfl,⟨_,by omega,by omega,hW⟩,he⟩):A:=h
theorem Av{A:Prop}(h:A:=by
 rintro v1 w1 ⟨rfl,hP,e1⟩
 refine jC 2 rfl<|WC.ret ?_
 replace he:=he.t e1
 exact aw rfl ⟨rfl,hP,he⟩):A:=h
theorem qx{w:World}(h:Below w.heap.size w w'):ay w w':=⟨h.os,h.tape,h.output,h.size,fun k hk _=>h.block k hk⟩
theorem tD{t:List UInt8}(hT:UT w)(hl:t.length≤9223372036854775807):
  ah TP 183 [str t] w fun r w'=>r= .bool (Lib.validD t)∧ay w w':=by
 refine⟨Calls.mono (Any.utf8_ValidString Tryz.lays196 ⟨t.toArray⟩ w hl hT) fun e w' hr=>?_⟩
 obtain⟨rfl,hb⟩:=hr
 exact⟨_,rfl,rfl,qx hb⟩
theorem B6(hW:Wb B bb w n)(hT:UT w)(h1:bb<B)(h2:B≤w.heap.size)(hn:n≤1000)(hv:Lib.validD t=true)(hl:t.length≤131072):
  ah TP 268 [.pointer (some ⟨bb,0,none⟩),str t] w (Cj B bb n · .nilIface w ·):=by
 have hval:=tD hT (Nat.le_trans hl (by omega))
 rw[hv]at hval
 have hsz:(⟨t.toArray⟩:ByteArray).size=t.length:=rfl
 rcases Nat.lt_or_ge t.length 256 with h5|h5
 ·refine aR Tryz.func268 ?_
  have he:am (fun k=>k<B∧k≠bb) w w:=am.refl w
  refine jA 8 rfl<|Hl rfl (hval) fun w1 e1=>?_
  refine jD 4 rfl<|jA 3 rfl<|Hq (jm Fb.h rfl)<|jD 6 rfl<|lT rfl rfl<|jD 7 rfl<|Hq (aL Fo.h rfl) ?_
  replace he:=he.t e1
  have:=he.s
  refine WL.l rfl (ll [_,_]) ?_
  rintro _ w2 ⟨rfl,hb2,e2⟩
  replace hW:=(hW.m e1).m e2
  refine Hm rfl (ij hW h1 (by have:=e1.s;have:=e2.s;omega) (by omega) hb2 (io (z1:=161))) fun w3 hW e3=>?_
  refine jD 5 rfl<|Hm rfl (oX hW h1 (by have:=e1.s;have:=e2.s;have:=e3.s;omega) (by omega) (by omega)) fun w4 hW e4=>?_
  refine jD 5 rfl<|WC.ret ?_
  replace he:=((he.t e2).t e3).t e4
  exact aw rfl ⟨rfl,⟨_,by omega,by omega,hW⟩,he⟩
 ·refine aR Tryz.func268 ?_
  have he:am (fun k=>k<B∧k≠bb) w w:=am.refl w
  refine jA 8 rfl<|Hl rfl (hval) fun w1 e1=>?_
  refine jD 4 rfl<|jA 3 rfl<|Hq (jm Fb.h rfl)<|jD 6 rfl<|lF rfl rfl<|jD 6 rfl<|Hq (bp Fo.h rfl (dZ (by omega) (by omega)))<|lT rfl rfl<|jD 6 rfl ?_
  replace hW:=hW.m e1
  refine Hm rfl (cj (z:=177) hW h1 (by have:=e1.s;omega) (by omega)) fun w2 hW e2=>?_
  refine jD 5 rfl<|Hq (aL Fo.h rfl)<|Hm rfl (kM hW h1 (by have:=e1.s;have:=e2.s;omega) (by omega)) fun w3 hW e3=>?_
  refine jD 5 rfl<|Hm rfl (oX hW h1 (by have:=e1.s;have:=e2.s;have:=e3.s;omega) (by omega) (by omega)) fun w4 hW e4=>?_
  refine jD 5 rfl<|WC.ret ?_
  replace he:=(((he.t e1).t e2).t e3).t e4
  exact aw rfl ⟨rfl,⟨_,by omega,by omega,hW⟩,he⟩
theorem Ee{m:Nat}(h:m<256):∃l2:List UInt8,l2.length=2∧[Value.int .u8 80,Value.int .u8 (m:Int)]=bc l2:=by
 have h9:(UInt8.ofNat m).toNat=m:=by rw[UInt8.toNat_ofNat'];omega
 exact⟨[80,UInt8.ofNat m],rfl,by show[_,Value.int .u8 (m:Int)]=[_,Value.int .u8 ((UInt8.ofNat m).toNat:Int)];rw[h9];rfl⟩
theorem Ac{t:List UInt8}(hW:Wb B bb w n)(h1:bb<B)(h2:B≤w.heap.size)(hn:n≤1000)(ht:t.length=16):
  ah TP 378 [.agg (bc t).toArray,.pointer (some ⟨bb,0,none⟩)] w (Cj B bb n · .nilIface w ·):=by
 obtain⟨v,l,hl,hb,hO⟩:=hW
 have hbe:=hO.below
 refine aR Tryz.func378 ?_
 have he:am (fun k=>k<B∧k≠bb) w w:=am.refl w
 refine jA 2 rfl ?_
 have:=he.s
 refine Hb rfl fun w1 hb1 e1=>?_
 refine jD 5 rfl ?_
 replace hb:=hb.m e1
 replace hO:=hO.m e1
 refine Hm rfl (mf (z:=152) hl hb hO h1 (by have:=e1.s;omega) (by omega)) fun w2 hW e2=>?_
 have e2:=e2.k (B:=fun k=>(k<B∨k=w.heap.size)∧k≠bb) (fun k _ hk=>⟨by rcases hk.1 with h|h;exact hbe.2 k h;subst h;exact hbe.1,hk.2⟩)
 refine jD 4 rfl<|Hq (ga Fo.h rfl) ?_
 replace hb1:=hb1.m e2
 refine Hm rfl (yq hW h1 (by have:=e1.s;have:=e2.s;omega) (by omega) (bT.blk hb1 ht) ht (by omega)) fun w3 hW e3=>?_
 refine jD 5 rfl<|WC.ret ?_
 replace he:=((he.t e1).t e2).t e3
 exact aw rfl ⟨rfl,⟨_,by omega,by omega,hW⟩,he⟩
theorem uJ{k:Int}{t:List UInt8}(hW:Wb B bb w n)(hT:UT w)(h1:bb<B)(h2:B≤w.heap.size)(hn:n≤1000)(hk:qY k)(hN:de k m)(ht:k=17→t.length=16)(hv:k=19→Lib.validD t=true∧t.length≤131072):
  ah TP 245 [.pointer (some ⟨bb,0,none⟩),.iface (gR k) (jU k m t)] w (Cj B bb n · .nilIface w ·):=by
 rcases hk with rfl|rfl|rfl|rfl|rfl|rfl|rfl|rfl|rfl|rfl|rfl|rfl
 ·show ah TP _ [_,.iface 4 (.bool (m !=0))] _ _
  cases hm0:(m !=0)
  ·refine aR Tryz.func245 ?_
   have he:am (fun k=>k<B∧k≠bb) w w:=am.refl w
   refine jA 12 rfl<|Hq (aF Fb.h rfl)<|jD 4 rfl<|Hq (aQ Fb.h rfl)<|jD 15 rfl<|cl rfl (cj (z:=66) hW h1 (by omega) (by omega)) ?_
   exact Au
  ·refine aR Tryz.func245 ?_
   have he:am (fun k=>k<B∧k≠bb) w w:=am.refl w
   refine jA 12 rfl<|Hq (aF Fb.h rfl)<|jD 4 rfl<|Hq (aQ Fb.h rfl)<|jD 15 rfl<|cl rfl (cj (z:=65) hW h1 (by omega) (by omega)) ?_
   exact Au
 ·show ah TP _ [_,.iface 5 (.int .u8 m)] _ _
  skip
  refine aR Tryz.func245 ?_
  have he:am (fun k=>k<B∧k≠bb) w w:=am.refl w
  refine jA 12 rfl<|Hq (aF Fb.h rfl)<|jD 74 rfl<|Hq (aQ Fb.h rfl)<|jD 11 rfl ?_
  have hs1:=he.s
  refine WL.l rfl (ll [_,_]) ?_
  rintro _ w1 ⟨rfl,hb1,e1⟩
  replace hW:=hW.m e1
  refine cl rfl (ij hW h1 (by have:=e1.s;omega) (by omega) hb1 (Ee (hN.2.1 rfl))) ?_
  exact rQ
 ·show ah TP _ [_,.iface 228 (.int .u16 m)] _ _
  skip
  refine aR Tryz.func245 ?_
  have he:am (fun k=>k<B∧k≠bb) w w:=am.refl w
  refine jA 12 rfl<|Hq (aF Fb.h rfl)<|jD 60 rfl<|Hq (aQ Fb.h rfl)<|jD 11 rfl<|Hm rfl (cj (z:=96) hW h1 (by omega) (by omega)) fun w1 hW e1=>?_
  refine jD 4 rfl<|cl rfl (r5 hW h1 (by have:=e1.s;omega) (by omega)) ?_
  exact rQ
 ·show ah TP _ [_,.iface 22 (.int .u32 m)] _ _
  skip
  refine aR Tryz.func245 ?_
  have he:am (fun k=>k<B∧k≠bb) w w:=am.refl w
  refine jA 12 rfl<|Hq (aF Fb.h rfl)<|jD 46 rfl<|Hq (aQ Fb.h rfl)<|jD 11 rfl<|cl rfl (Cd hW h1 (by omega) (by omega) (by omega)) ?_
  exact rR
 ·show ah TP _ [_,.iface 27 (.int .u64 m)] _ _
  skip
  refine aR Tryz.func245 ?_
  have he:am (fun k=>k<B∧k≠bb) w w:=am.refl w
  refine jA 12 rfl<|Hq (aF Fb.h rfl)<|jD 32 rfl<|Hq (aQ Fb.h rfl)<|jD 11 rfl<|cl rfl (Ce hW h1 (by omega) (by omega) (by omega)) ?_
  exact rR
 ·show ah TP _ [_,.iface 213 (.int .i8 (IntKind.i64.wrap m))] _ _
  skip
  refine aR Tryz.func245 ?_
  have he:am (fun k=>k<B∧k≠bb) w w:=am.refl w
  refine jA 12 rfl<|Hq (aF Fb.h rfl)<|jD 102 rfl<|Hq (aQ Fb.h rfl)<|jD 11 rfl<|Hq (aL Fo.h rfl) ?_
  have hs1:=he.s
  refine WL.l rfl (ll [_,_]) ?_
  rintro _ w1 ⟨rfl,hb1,e1⟩
  replace hW:=hW.m e1
  refine cl rfl (ij hW h1 (by have:=e1.s;omega) (by omega) hb1 (io (z1:=81))) ?_
  exact rQ
 ·show ah TP _ [_,.iface 217 (.int .i16 (IntKind.i64.wrap m))] _ _
  skip
  refine aR Tryz.func245 ?_
  have he:am (fun k=>k<B∧k≠bb) w w:=am.refl w
  refine jA 12 rfl<|Hq (aF Fb.h rfl)<|jD 116 rfl<|Hq (aQ Fb.h rfl)<|jD 11 rfl<|Hm rfl (cj (z:=97) hW h1 (by omega) (by omega)) fun w1 hW e1=>?_
  refine jD 4 rfl<|Hq (aL Fo.h rfl)<|cl rfl (r5 hW h1 (by have:=e1.s;omega) (by omega)) ?_
  exact rQ
 ·show ah TP _ [_,.iface 21 (.int .i32 (IntKind.i64.wrap m))] _ _
  skip
  refine aR Tryz.func245 ?_
  have he:am (fun k=>k<B∧k≠bb) w w:=am.refl w
  refine jA 12 rfl<|Hq (aF Fb.h rfl)<|jD 130 rfl<|Hq (aQ Fb.h rfl)<|jD 11 rfl<|cl rfl (B8 hW h1 (by omega) (by omega)) ?_
  exact rR
 ·show ah TP _ [_,.iface 2 (.int .i64 (IntKind.i64.wrap m))] _ _
  skip
  refine aR Tryz.func245 ?_
  have he:am (fun k=>k<B∧k≠bb) w w:=am.refl w
  refine jA 12 rfl<|Hq (aF Fb.h rfl)<|jD 144 rfl<|Hq (aQ Fb.h rfl)<|jD 11 rfl<|cl rfl (B9 hW h1 (by omega) (by omega)) ?_
  exact rR
 ·show ah TP _ [_,.iface 251 (.agg (tm (IntKind.i64.wrap m)).toArray)] _ _
  skip
  refine aR Tryz.func245 ?_
  have he:am (fun k=>k<B∧k≠bb) w w:=am.refl w
  refine jA 12 rfl<|Hq (aF Fb.h rfl)<|jD 270 rfl<|Hq (aQ Fb.h rfl)<|jD 6 rfl ?_
  have hs1:=he.s
  refine Ha fun w1 hb1 e1=>?_
  refine Ho rfl rfl hb1 fun w2 hb1 e2 hz2=>?_
  refine jD 3 rfl<|la rfl hb1 ?_
  replace hW:=hW.m (e1.t e2)
  refine Hm rfl (Ab hW h1 (by have:=e1.s;have:=e2.s;omega) (by omega) (eJ _).1 (eJ _).2) fun w3 hP e3=>?_
  refine jD 5 rfl<|WC.ret ?_
  replace he:=(he.t (e1.t e2)).t e3
  exact aw rfl ⟨rfl,hP,he⟩
 ·show ah TP _ [_,.iface 319 (.agg (bc t).toArray)] _ _
  skip
  refine aR Tryz.func245 ?_
  have he:am (fun k=>k<B∧k≠bb) w w:=am.refl w
  refine jA 12 rfl<|Hq (aF Fb.h rfl)<|jD 522 rfl<|Hq (dc Fb.h rfl)<|jD 12 rfl<|WL.l rfl (dI Fo.h Fb.h rfl rfl (Ac hW h1 (by omega) (by omega) (ht rfl))) ?_
  exact Av
 ·show ah TP _ [_,.iface 9 (str t)] _ _
  skip
  refine aR Tryz.func245 ?_
  have he:am (fun k=>k<B∧k≠bb) w w:=am.refl w
  refine jA 12 rfl<|Hq (aF Fb.h rfl)<|jD 186 rfl<|Hq (aQ Fb.h rfl)<|jD 12 rfl<|cl rfl (B6 hW hT h1 (by omega) (by omega) (hv rfl).1 (hv rfl).2) ?_
  exact Av
theorem bH(h:bT A w v l)(hl:l.length≤1000000000):
  ah TP 24 [v] w fun r w'=>(∃N,w.heap.size≤N∧aT N 5 1 w' r l.length (bc l))∧ay w w':=by
 refine aR Tryz.func24 ?_
 have he:=XI w
 refine jA 6 rfl ?_
 have:=he.s
 refine WL.l rfl (iu Fo.h) ?_
 rintro _ w1 ⟨rfl,ho1,e1⟩
 refine jC 1 rfl ?_
 replace h:=h.m e1
 refine WL.l rfl (bz Fo.h rfl rfl ho1 (Src.isB Fb.h h) (by have:=e1.s;omega) (by simp only[maxLen];omega) (by omega)) ?_
 rintro v2 w2 ⟨hO,e2⟩
 refine jC 2 rfl<|WC.ret ?_
 rw[Nat.zero_add,List.nil_append]at hO
 replace he:=(he.t e1).t e2
 exact aw rfl ⟨⟨w.heap.size,Nat.le_refl _,hO⟩,he⟩
theorem xa(hW:Wb B bb w n)(hn:n≤1000000):
  ah TP 27 [.pointer (some ⟨bb,0,none⟩)] w fun r w'=>(∃l:List UInt8,l.length=n∧bT (fun k=>B≤k) w' r l)∧ay w w':=by
 obtain⟨v,l,hl,hb,hO⟩:=hW
 have hI:bT (fun k=>B≤k) w v l:=(hl▸hO).toB
 obtain⟨p,c,rfl,hc,hI2⟩:=hI
 refine aR Tryz.func27 ?_
 refine jA 4 rfl<|WC.seq<|WC.regionD (tt [0,1,2,3,4,5,6,7,8,9]) (ay _) mixed (by kernel_rfl) Xd<|jE 3 rfl<|dl rfl hb rfl<|jE 3 rfl<|dl rfl hb rfl<|He (fun _ hS=>cK (l:=0) Fo.h rfl rfl rfl (by omega))<|jE 1 rfl<|WD.nil<|WC.ret ?_
 have h7:=(show bT (fun k=>B≤k) w (.slice p l.length c) l from⟨p,c,rfl,hc,hI2⟩).cut 0 l.length (by omega)
 have h8:bT (fun k=>B≤k) w (Value.slice (if c=0 then p else p.map (·.add (0 * 1))) (l.length-0) (c-0)) l:=by simpa using h7
 exact aw rfl ⟨⟨l,hl,h8.m (ay.drew w)⟩,ch⟩
theorem re{k:Int}{t:List UInt8}(hT:UT w)(hk:qY k)(hN:de k m)(ht:k=17→t.length=16)(hv:k=19→Lib.validD t=true∧t.length≤131072):
  ah TP 212 [.iface (gR k) (jU k m t)] w fun r w'=>∃v l N,r= .tuple #[v,.bool true]∧aT N 5 1 w' v l.length (bc l)∧w.heap.size≤N∧l.length≤200000∧ay w w':=by
 have:=hT.lt
 refine cN Tryz.func212 ?_
 have he:=Hi w
 refine jA 7 rfl<|Hq (az (cs:=[_,_]) Fo.h rfl rfl) ?_
 have:=he.s
 refine Hb rfl fun w1 hb1 e1=>?_
 refine jD 7 rfl ?_
 replace hT:=hT.m e1
 refine cl rfl (uJ (B:=w1.heap.size) (n:=0) ⟨_,[],rfl,hb1,aT.nil _ _ _ _⟩ hT hb1.lt (Nat.le_refl _) (by omega) hk hN ht hv) ?_
 rintro v2 w2 ⟨rfl,⟨m2,hm1,hm2,hW⟩,e2⟩
 have:=e1.s
 refine Hq (aB Fb.h rfl)<|jD 3 rfl<|jA 3 rfl<|cl rfl (xa hW (by omega)) ?_
 rintro v3 w3 ⟨⟨l,hl,hI⟩,e3⟩
 refine cl rfl (bH hI (by omega)) ?_
 rintro v4 w4 ⟨⟨N,hN2,hO⟩,e4⟩
 refine jC 3 rfl<|WC.ret ?_
 replace he:=(((he.t e1).t e2).t e3).t e4
 exact bt rfl rfl ⟨_,l,N,rfl,hO,by have:=e1.s;have:=e2.s;have:=e3.s;omega,by omega,he.k fun k hk _=>hk⟩
end Go.Proofs.LL
namespace Go.Proofs.LL
open Go Go.Proofs Go.RowKit Go.Lib Go.Sort
set_option maxHeartbeats 4000000
attribute [local irreducible] ar WL WC cq WT WX
theorem BB{blk Bs:Nat}{W:World}{G:Nat→List UInt8}(hs:W.cell? ⟨Bs,0,none⟩=some (.slice (some ⟨blk,0,none⟩) size c))(hc:∀t,t<size→W.cell? ⟨blk,0+t * 13,none⟩=some (str (G t))){i j:Nat}(hi:i<size)(hj:j<size):
  ah TP 214 [.int .i64 (i:Int),.int .i64 (j:Int),.pointer (some ⟨Bs,0,none⟩)] W fun r w'=>r= .bool (ltStr (G i) (G j))∧w'=W.drew:=by
 have hci:=hc i hi
 have hcj:=hc j hj
 refine aR Tryz.func214 ?_
 refine jA 4 rfl<|WC.seq<|WC.regionD (tt [0,1,2,3,4,5,6,7,8,9,10,11]) (ay _) mixed (by kernel_rfl) Xd<|He (fun _ hS=>ao Fb.h rfl hS hs)<|jE 1 rfl<|He (fun _ hS=>bd Fo.h rfl rfl rfl hi)<|jE 1 rfl<|He (fun _ hS=>ao Fb.h rfl hS hci)<|He (fun _ hS=>ao Fb.h rfl hS hs)<|jE 1 rfl<|He (fun _ hS=>bd Fo.h rfl rfl rfl hj)<|jE 1 rfl<|He (fun _ hS=>ao Fb.h rfl hS hcj)<|He (fun _ hS=>BU rfl rfl)<|jE 1 rfl<|WD.nil<|WC.ret ?_
 exact aw rfl ⟨rfl,rfl⟩
def oU:Type:= {p:List UInt8×List Value // p.2.length=12∧∀v∈p.2,v.oneCell'=true}
instance:Inhabited oU:=⟨⟨([],List.replicate 12 .nilIface),by simp,by intro v hv;rw[List.mem_replicate]at hv;rw[hv.2];rfl⟩⟩
def dw(r:oU):List Value:=str r.1.1::r.1.2
def FS(a b:oU):Bool:=ltStr a.1.1 b.1.1
theorem gM(r:oU):(dw r).length=13:=by simp[dw,r.2.1]
theorem yH(r:oU):∀v∈dw r,v.oneCell'=true:=by
 intro v hv
 rcases List.mem_cons.1 hv with rfl|hv
 ·rfl
 ·exact r.2.2 v hv
theorem B0:SWO FS where
 irrefl x:=swo_ltStr.irrefl _
 trans x y z:=swo_ltStr.trans _ _ _
 ntrans x y z:=swo_ltStr.ntrans _ _ _
noncomputable def yZ:TypeInfo:=(TP.info? 420).get (by kernel_rfl)
noncomputable def sH:TypeInfo:=(TP.info? 423).get (by kernel_rfl)
theorem DI(n:Nat)(h2:2≤n):Lib.swapperK n sH 25=9:=by
 have a:sH.hasPointers=true:=by kernel_rfl
 have b:sH.bytes=192:=by kernel_rfl
 have c:(n==0)=false:=by simp;omega
 have d:(n==1)=false:=by simp;omega
 simp[Lib.swapperK,a,b,c,d]
theorem ux{Bs:Nat}{d:Array oU}(hH:HoldsK dw 13 w blk 0 d)(hblk:blk<w.heap.size)(hBs:w.cell? ⟨Bs,0,none⟩=some (.slice (some ⟨blk,0,none⟩) d.size c))(hB2:Bs≠blk):
  LessReadsK TP 214 #[.pointer (some ⟨Bs,0,none⟩)] dw 13 FS blk 0 d.size w:=by
 intro m os dk hs i j hi hj
 have hB1:Bs<w.heap.size:=bD hBs
 have e:sortWorldK dw 13 w blk 0 m dk os=putRowK dw 13 (grow (Sort.ahead w m) os) blk 0 dk:=by
  unfold sortWorldK;rw[putRowK_grow _ _ (Sort.ahead w m) _ blk 0 _ hblk]
 have hHg:HoldsK dw 13 (grow (Sort.ahead w m) os) blk 0 d:=holdsK_grow _ _ _ _ blk 0 d hblk (holdsK_ahead _ _ _ _ _ _ _ hH)
 have hd:=BB (blk:=blk) (c:=c) (Bs:=Bs) (size:=d.size) (W:=sortWorldK dw 13 w blk 0 m dk os) (G:=fun t=>dk[t]!.1.1) (by
  rw[e,cell?_putRowK_other _ _ _ blk 0 dk _ (by exact hB2),cell?_grow _ _ _ (by exact hB1)];exact hBs) (fun t ht=>by
  rw[e]
  have h:=((holdsK_putRowK _ _ _ blk 0 d dk hHg hs).cell (i:=t) (c:=0) (by omega) (by omega)).1
  simpa[dw]using h) hi hj
 refine Calls.mono hd.calls fun e w' hr=>?_
 obtain⟨v,rfl,rfl,rfl⟩:=hr
 exact⟨rfl,1,rfl⟩
theorem uo:TP.info? 420=some yZ:=by unfold yZ;exact(Option.some_get _).symm
theorem up:TP.info? 423=some sH:=by unfold sH;exact(Option.some_get _).symm
theorem zM{Bs:Nat}{d:Array oU}(h2:2≤d.size)(hsz:d.size≤65536)(hH:HoldsK dw 13 w blk 0 d)(hblk:blk<w.heap.size)(hBs:w.cell? ⟨Bs,0,none⟩=some (.slice (some ⟨blk,0,none⟩) d.size c))(hB2:Bs≠blk):
  Calls TP 213 #[.iface 420 (.slice (some ⟨blk,0,none⟩) d.size c),.func (.func 214) #[] #[.pointer (some ⟨Bs,0,none⟩)]] w fun e w'=>
   e= .returned (.tuple #[])∧∃d' n os,PermIn 0 d.size d d'∧SortedIn FS 0 d.size d'∧w'=grow (putRowK dw 13 (Sort.ahead w n) blk 0 d') os:=
 Any.sort_Slice_cells_sorted Tryz.gl6 420 423 yZ sH uo (by kernel_rfl) (by kernel_rfl) up 25 (fun _=>by kernel_rfl) dw 13 gM (by kernel_rfl) (fun _=>by kernel_rfl)
  yH FS B0 214 _
  (enters_of Tryz.func214 (by kernel_rfl) rfl) blk 0 c d h2 (by omega) 297 (by rw[DI _ h2];kernel_rfl) false
  (fun args W=>run_callFunc_extern Tryz.func297 (by kernel_rfl) (by kernel_rfl) (by kernel_rfl) (e:=Extern.ReflectliteSwapper.swap false) (by kernel_rfl) args W) w (ux hH hblk hBs hB2) hH hblk
theorem xS{p:Option Addr}{n c:Nat}{lf:Fn}{la lb:Array Value}{w:World}(h1:n≤1):
  Calls TP 213 #[.iface 420 (.slice p n c),.func lf la lb] w fun e w'=>e= .returned (.tuple #[])∧∃os,w'=grow w os:=by
 rcases Nat.eq_zero_or_pos n with h0|h0
 ·subst h0
  exact Any.sort_Slice_tiny Tryz.gl6 420 423 yZ sH uo (by kernel_rfl) (by kernel_rfl) up 25 (fun _=>by kernel_rfl) p 0 c h1 289 (by kernel_rfl) lf la lb w
 ·have h11:n=1:=by omega
  subst h11
  exact Any.sort_Slice_tiny Tryz.gl6 420 423 yZ sH uo (by kernel_rfl) (by kernel_rfl) up 25 (fun _=>by kernel_rfl) p 1 c h1 290 (by kernel_rfl) lf la lb w
theorem sA:∀(rows:List oU) (t:Nat),t<rows.length * 13→(rows.flatMap dw)[t]?=some ((dw rows[t / 13]!)[t%13]!)
 |[],t,h=>by simp at h
 |r::rs,t,h=>by
  rw[List.flatMap_cons]
  rcases Nat.lt_or_ge t 13 with h1|h1
  ·rw[List.getElem?_append_left (by rw[gM];exact h1),Nat.div_eq_of_lt h1,Nat.mod_eq_of_lt h1]
   simp[gM,h1]
  ·obtain⟨u,rfl⟩:∃u,t=u+13:=⟨t-13,by omega⟩
   rw[List.getElem?_append_right (by rw[gM];exact h1),gM,Nat.add_sub_cancel,sA rs u (by simp at h;omega)]
   rw[Nat.add_div_right u (by decide),Nat.add_mod_right]
   simp
theorem dB(rows:List oU):(rows.flatMap dw).length=rows.length * 13:=by
 induction rows with
 |nil=>rfl
 |cons r rs ih=>rw[List.flatMap_cons,List.length_append,ih,gM,List.length_cons];omega
theorem nF(rows:List oU):flatK dw 13 rows.toArray=(rows.flatMap dw).toArray:=by
 refine ext_get! (by rw[size_flatK,List.size_toArray,List.size_toArray,dB]) fun t ht=>?_
 have ht':t<rows.length * 13:=by simpa using ht
 rw[get_flatK _ _ _ t (by simpa using ht')]
 have h:=sA rows t ht'
 have h2:t<(rows.flatMap dw).length:=by rw[dB];exact ht'
 rw[List.getElem?_eq_getElem h2]at h
 have h3:=Option.some.inj h
 rw[getElem!_pos _ t (by simpa using h2)]
 simp only[List.getElem_toArray]
 rw[h3]
 simp
theorem un{w:World}{g:Nat}{rows:List oU}(hb:w.heap[g]?=some (.cells cur e (0,0)))(ht:cur.toList.take (rows.length * 13)=rows.flatMap dw):HoldsK dw 13 w g 0 rows.toArray:=by
 unfold HoldsK
 rw[nF]
 intro j hj
 have hj':j<rows.length * 13:=by rw[← dB];exact(by simpa only[List.size_toArray]using hj)
 have hj2:j<(rows.flatMap dw).length:=by rw[dB];exact hj'
 refine⟨?_,by simp[World.frozen?,hb]⟩
 have h1:(cur.toList.take (rows.length * 13))[j]?=(rows.flatMap dw)[j]?:=by rw[ht]
 rw[List.getElem?_take_of_lt hj',Array.getElem?_toList,List.getElem?_eq_getElem hj2]at h1
 simp only[World.cell?,hb,Nat.zero_add]
 simp only[Option.isSome_none,Bool.false_eq_true,if_false]
 rw[h1,getElem!_pos _ j (by simpa using hj2)]
 simp
theorem yY{w:World}{g:Nat}{os:Array Obj}{fr:Nat×Nat}(hb:w.heap[g]?=some (.cells cur e fr)):
  (grow (putRow id (Sort.ahead w n) g 0 F) os).heap[g]?=some (.cells (putCells id 0 F cur) e fr):=by
 have hg:g<w.heap.size:=(Array.getElem?_eq_some_iff.1 hb).1
 rw[heap_grow_old _ _ (by simpa using hg)]
 simp[putRow,mapBlock,Sort.ahead,Array.getElem?_modify,hb,onCells]
theorem Bp{os:Array Obj}(F:Array Value):am (fun k=>k≠g) w (grow (putRow id (Sort.ahead w n) g 0 F) os):=by
 refine⟨rfl,rfl,rfl,by simp,fun k hk hne=>?_⟩
 rw[heap_grow_old _ _ (by simpa using hk)]
 simp[putRow,mapBlock,Sort.ahead,Array.getElem?_modify,Ne.symm hne]
theorem zS(cur:Array Value)(l:List Value)(h:l.length≤cur.size):(putCells id 0 l.toArray cur).toList.take l.length=l:=by
 apply List.ext_getElem?
 intro j
 by_cases hj:j<l.length
 ·rw[List.getElem?_take_of_lt hj,Array.getElem?_toList]
  simp[putCells,hj,show j<cur.size by omega]
 ·rw[List.getElem?_take_eq_none (by omega),List.getElem?_eq_none (by omega)]
theorem xM{rows:List oU}{d':Array oU}(h:PermIn 0 rows.toArray.size rows.toArray d'):d'.toList.Perm rows:=by
 obtain⟨h1,_,h3⟩:=h
 have h4:d'.size=rows.length:=by simpa using h1
 have e1:d'.extract 0 rows.toArray.size=d':=by rw[show rows.toArray.size=d'.size from h1.symm];simp
 rw[e1]at h3
 simpa using h3
theorem lp{B Bs:Nat}{sv:Value}{rows:List oU}{w:World}(hO:aT B 423 13 w sv rows.length (rows.flatMap dw))(hb:aH w Bs [sv])(hbb:Bs<B)(hn:rows.length≤65536):
  ah TP 213 [.iface 420 sv,.func (.func 214) #[] #[.pointer (some ⟨Bs,0,none⟩)]] w fun r w'=>r= .tuple #[]∧(∃rows':List oU,rows'.Perm rows∧aT B 423 13 w' sv rows'.length (rows'.flatMap dw))∧am (fun k=>sv.ownBlock≠some k) w w':=by
 have hsmall:∀ {p:Option Addr} {n c:Nat},sv= .slice p n c→n≤1→ah TP 213 [.iface 420 sv,.func (.func 214) #[] #[.pointer (some ⟨Bs,0,none⟩)]] w fun r w'=>r= .tuple #[]∧(∃rows':List oU,rows'.Perm rows∧aT B 423 13 w' sv rows'.length (rows'.flatMap dw))∧am (fun k=>sv.ownBlock≠some k) w w':=by
  intro p n c hsv h1
  refine⟨Calls.mono (hsv▸xS (p:=p) (c:=c) (la:= #[]) (lb:= #[.pointer (some ⟨Bs,0,none⟩)]) (lf:= .func 214) (w:=w) h1) fun e w' hr=>?_⟩
  obtain⟨rfl,os,rfl⟩:=hr
  have hE:ay w (grow w os):=⟨rfl,rfl,rfl,by simp,fun k hk _=>heap_grow_old _ _ hk⟩
  exact⟨_,rfl,rfl,⟨rows,.refl _,hO.m hE⟩,hE.k fun _ _ _=>trivial⟩
 have hO0:=hO
 rcases hO.row.2 with⟨rfl,h2⟩|⟨g,cap,cur,rfl,h4,h5,h6,h7,h8,h9⟩
 ·exact hsmall rfl (by omega)
 ·rcases Nat.lt_or_ge rows.length 2 with h2|h2
  ·exact hsmall rfl (by omega)
  ·have hg:g<w.heap.size:=(Array.getElem?_eq_some_iff.1 h5).1
   have hH:=un (rows:=rows) h5 h9
   have hc:=zM (blk:=g) (c:=cap) (Bs:=Bs) (d:=rows.toArray) (w:=w) (by simpa using h2) (by simpa using hn) hH hg (by simpa using hb.get (j:=0) rfl) (by omega)
   rw[show rows.toArray.size=rows.length from List.size_toArray]at hc
   refine⟨Calls.mono hc fun e w' hr=>?_⟩
   obtain⟨rfl,d',n,os,hp,_,rfl⟩:=hr
   have hp2:d'.toList.Perm rows:=xM (by rw[List.size_toArray];exact hp)
   have hlen:d'.toList.length=rows.length:=hp2.length_eq
   have hF:flatK dw 13 d'=(d'.toList.flatMap dw).toArray:=by rw[← nF]
   refine⟨_,rfl,rfl,⟨d'.toList,hp2,⟨⟨by rw[dB],.inr ⟨g,cap,putCells id 0 (d'.toList.flatMap dw).toArray cur,by rw[hlen],h4,?_,by omega,h7,by simpa[putCells]using h8,?_⟩⟩⟩⟩,?_⟩
   ·unfold putRowK;rw[hF];exact yY h5
   ·rw[← dB];exact zS _ _ (by rw[dB,hlen];omega)
   ·exact(Bp _).k fun k _ hk=>by simpa[Value.ownBlock,eq_comm]using hk
end Go.Proofs.LL
