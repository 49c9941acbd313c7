/- Own laws of frames, operations and loops, and contracts of functions of the program. Conditions: those that each theorem states. -/
import Derived.Test.YtdgbmbjkbmpcbaaGreatDoorV41
set_option linter.all false
set_option maxRecDepth 20000
namespace Go.Proofs.LL
open Go Go.Proofs Go.RowKit
set_option maxHeartbeats 4000000
attribute [local irreducible] RunOp WL WC WDL WT WX
theorem bw{A:Prop}(h:A:=by
 intro A n t ks o d cx fb w hx hn h1 ht
 have hx0:=hx
 obtain⟨pk,ck,pd,cd,rfl,_,_,_,_⟩:=hx0.openV
 refine do1 Tryz.func62 ?_
 refine jA 2 rfl ?_
 refine bx rfl ?_
 rintro _ w1 ⟨rfl,hb1,e1⟩
 have nx1:=hb1.lt
 have ns1:=e1.size
 refine jD 6 rfl<|ld rfl hb1 rfl<|jD 63 rfl<|jA 2 rfl<|WL.q rfl (r_loadAgg Fo.h rfl (Ext.refl _) hb1.at (hn:=rfl)) ?_
 replace hx:=hx.mono e1
 refine cl rfl (il hx (by omega) hn) ?_
 rintro v2 w2 ⟨⟨ps,hG,hX⟩,e2⟩
 have ns2:=e2.size
 refine jC 2 rfl<|WC.ret ?_
 exact fin1 rfl ⟨⟨ps,hG,hX.low fun b h=>by show w.heap.size≤b;omega⟩,ch⟩):A:=h
theorem ml{A:Prop}(h:A:=by
 exact fin1 rfl ⟨⟨[(152,t)],⟨fun p hp=>by rw[List.mem_singleton.1 hp];exact⟨0x98,rfl,.uuid⟩,by simp,by simp,fun _=>⟨_,List.mem_singleton.2 rfl,(by show(152:Int)=bU 17;decide)⟩⟩,aX.at1 (ct hb4) hZ1 (by show w.heap.size≤_;omega)⟩,ch⟩):A:=h
theorem aX.lit{A:Nat→Prop}{w:World}{b:Nat}{ps:List cj}{cs:List Value}{n:Nat}(h:At w b 0 cs)(hn:ps.length=n)(hV:am A w ps cs)(hA:A b):aX A w ps (.slice (some ⟨b,0,none⟩) n n):=by
 subst hn
 exact⟨_,_,_,rfl,Nat.le_refl _,hV,.inr ⟨b,0,rfl,hA,h⟩⟩
theorem fa{s l:Int}{d:List UInt8}{p:cj}(h:p∈bE s l d none):(p=(s,txt 1 d)∧d.length<256)∨p=(l,txt 4 d):=by
 simp only[bE,bo]at h
 rcases List.mem_append.1 h with h|h
 ·split at h
  ·cases h
  ·rename_i hq
   exact .inl ⟨by simpa[txt]using h,by simp at hq;omega⟩
 ·split at h
  ·cases h
  ·exact .inr (by simpa[txt]using h)
theorem bh{s l:Int}{d:List UInt8}:(l,txt 4 d)∈bE s l d none:=by
 simp only[bE,bo]
 refine List.mem_append.2 (.inr ?_)
 rw[if_neg (by omega)]
 simp[txt]
theorem bA{s l:Int}{d:List UInt8}{c:Option Nat}:(bE s l d c).length≤2:=by
 unfold bE bo
 cases c<;>simp only[]<;>(repeat' split)<;>simp
theorem IsB.s2b{A:Nat→Prop}{w:World}{b c:Nat}{t:List UInt8}(hb:BytesAt w b 0 t)(hc:t.length≤c)(hA:A b):IsB A w (.slice (some ⟨b,0,none⟩) t.length c) t:=⟨_,_,rfl,hc,fun _=>⟨b,0,rfl,hA,hb⟩⟩
def cA(k:Int):Prop:=∀(A:Nat→Prop) (n:Nat) (t:List UInt8) (ks:List V) (o:Int) (d:List V) (cx:List Value) (fb:Nat) (w:World),ag A w (.mk k n t ks o d) cx→n<18446744073709551616→(k=1→n≤1)→t.length≤1000000000→
 Does TP 62 [.pointer (some ⟨fb,0,none⟩),.agg cx.toArray] w fun r w'=>cD w.heap.size (.mk k n t ks o d) r w'∧Ext w w'
theorem rS:cA 0:=by
 intro A n t ks o d cx fb w hx hn h1 ht
 obtain⟨pk,ck,pd,cd,rfl,_,_,_,_⟩:=hx.openV
 refine do1 Tryz.func62 ?_
 refine jA 2 rfl ?_
 refine bx rfl ?_
 rintro _ w1 ⟨rfl,hb1,e1⟩
 have nx1:=hb1.lt
 have ns1:=e1.size
 refine jD 6 rfl<|ld rfl hb1 rfl<|jD 10 rfl<|WL.q rfl (r_bld (cs:=[_,_]) Fo.h rfl rfl) ?_
 have hx2b1:=hb1.lt
 refine WL.l rfl (ll [_]) ?_
 rintro _ w2 ⟨rfl,hb2,e2⟩
 have ns2:=e2.size
 refine jC 2 rfl<|WC.ret ?_
 exact fin1 rfl ⟨⟨[(0x40,[])],⟨fun p hp=>by rw[List.mem_singleton.1 hp];exact⟨0x40,rfl,.null⟩,by simp,by simp,fun h=>by simp[arrK,V.kind]at h⟩,aX.at1 (ct hb2) IsB.nil (by show w.heap.size≤_;omega)⟩,ch⟩
theorem qY:cA 1:=by
 intro A n t ks o d cx fb w hx hn h1 ht
 obtain⟨pk,ck,pd,cd,rfl,_,_,_,_⟩:=hx.openV
 have hB1:∀ {A:Nat→Prop} {w:World} {b:Nat} {z:Nat},Blk w b (([.int .u8 (IntKind.u8.wrap (z:Int))]:List Value).flatMap (fun v=>v.cells.toList))→z≤1→A b→IsB A w (.slice (some ⟨b,0,none⟩) 1 1) [UInt8.ofNat z]:=fun {A w b z} h hz hA=>
  ⟨_,_,rfl,Nat.le_refl _,fun _=>⟨b,0,rfl,hA,fun j hj=>by
   have hj0:j=0:=by simpa using hj
   subst hj0
   have h2:=(show Blk w b [.int .u8 (IntKind.u8.wrap (z:Int))]from h).get (j:=0) rfl
   rw[h2]
   rcases(show z=0∨z=1 by omega)with rfl|rfl<;>rfl⟩⟩
 rcases(show n=0∨n=1 by have:=h1 rfl;omega)with rfl|rfl
 ·refine do1 Tryz.func62 ?_
  refine jA 2 rfl ?_
  refine bx rfl ?_
  rintro _ w1 ⟨rfl,hb1,e1⟩
  have nx1:=hb1.lt
  have ns1:=e1.size
  refine jD 6 rfl<|ld rfl hb1 rfl<|jD 17 rfl<|ld rfl hb1 rfl<|WL.q rfl (r_cvInt Fo.h rfl) ?_
  refine WL.q rfl (r_subi (c:=66) rfl rfl (by decide) (by decide) (by decide)) ?_
  refine WL.q rfl (r_bld (cs:=[_,_]) Fo.h rfl rfl)<|jC 1 rfl<|ld rfl hb1 rfl<|WL.q rfl (r_cvInt Fo.h rfl) ?_
  have hx2b1:=hb1.lt
  refine WL.l rfl (ll [_]) ?_
  rintro _ w2 ⟨rfl,hb2,e2⟩
  have ns2:=e2.size
  refine WL.q rfl (r_bld (cs:=[_,_]) Fo.h rfl rfl) ?_
  replace hb1:=hb1.mono e2
  have hx3b1:=hb1.lt
  have hx3b2:=hb2.lt
  refine WL.l rfl (ll [_,_]) ?_
  rintro _ w3 ⟨rfl,hb3,e3⟩
  have ns3:=e3.size
  refine jC 2 rfl<|WC.ret ?_
  replace hb2:=hb2.mono e3
  have hI:=hB1 (A:=fun b=>w.heap.size≤b) (z:=0) hb2 (by omega) (by show w.heap.size≤_;omega)
  exact fin1 rfl ⟨⟨[(66,[]),(0x56,[UInt8.ofNat 0])],⟨fun p hp=>by rcases List.mem_cons.1 hp with e|hp;exact e▸⟨66,rfl,.ff⟩;exact List.mem_singleton.1 hp▸⟨0x56,rfl,.bool (by omega)⟩,by simp,by simp,fun _=>⟨(0x56,[UInt8.ofNat 0]),by simp,(by show(86:Int)=bU 1;decide)⟩⟩,aX.lit (io hb3) rfl (am.append (am.one (p:=(66,[])) IsB.nil) (am.one (p:=(0x56,[UInt8.ofNat 0])) hI)) (by show w.heap.size≤_;omega)⟩,ch⟩
 ·refine do1 Tryz.func62 ?_
  refine jA 2 rfl ?_
  refine bx rfl ?_
  rintro _ w1 ⟨rfl,hb1,e1⟩
  have nx1:=hb1.lt
  have ns1:=e1.size
  refine jD 6 rfl<|ld rfl hb1 rfl<|jD 17 rfl<|ld rfl hb1 rfl<|WL.q rfl (r_cvInt Fo.h rfl) ?_
  refine WL.q rfl (r_subi (c:=65) rfl rfl (by decide) (by decide) (by decide)) ?_
  refine WL.q rfl (r_bld (cs:=[_,_]) Fo.h rfl rfl)<|jC 1 rfl<|ld rfl hb1 rfl<|WL.q rfl (r_cvInt Fo.h rfl) ?_
  have hx2b1:=hb1.lt
  refine WL.l rfl (ll [_]) ?_
  rintro _ w2 ⟨rfl,hb2,e2⟩
  have ns2:=e2.size
  refine WL.q rfl (r_bld (cs:=[_,_]) Fo.h rfl rfl) ?_
  replace hb1:=hb1.mono e2
  have hx3b1:=hb1.lt
  have hx3b2:=hb2.lt
  refine WL.l rfl (ll [_,_]) ?_
  rintro _ w3 ⟨rfl,hb3,e3⟩
  have ns3:=e3.size
  refine jC 2 rfl<|WC.ret ?_
  replace hb2:=hb2.mono e3
  have hI:=hB1 (A:=fun b=>w.heap.size≤b) (z:=1) hb2 (by omega) (by show w.heap.size≤_;omega)
  exact fin1 rfl ⟨⟨[(65,[]),(0x56,[UInt8.ofNat 1])],⟨fun p hp=>by rcases List.mem_cons.1 hp with e|hp;exact e▸⟨65,rfl,.tt⟩;exact List.mem_singleton.1 hp▸⟨0x56,rfl,.bool (by omega)⟩,by simp,by simp,fun _=>⟨(0x56,[UInt8.ofNat 1]),by simp,(by show(86:Int)=bU 1;decide)⟩⟩,aX.lit (io hb3) rfl (am.append (am.one (p:=(65,[])) IsB.nil) (am.one (p:=(0x56,[UInt8.ofNat 1])) hI)) (by show w.heap.size≤_;omega)⟩,ch⟩
theorem ri:cA 2:=by
 exact bw
theorem rP:cA 3:=by
 exact bw
theorem rz:cA 4:=by
 exact bw
theorem rV:cA 5:=by
 exact bw
theorem rO:cA 6:=by
 exact bw
theorem rX:cA 7:=by
 exact bw
theorem rR:cA 8:=by
 exact bw
theorem rB:cA 9:=by
 exact bw
theorem oN:cA 10:=by
 exact bw
theorem pg:cA 11:=by
 exact bw
theorem pS:cA 16:=by
 exact bw
theorem pK:cA 17:=by
 intro A n t ks o d cx fb w hx hn h1 ht
 obtain⟨pk,ck,pd,cd,rfl,_,_,_,_⟩:=hx.openV
 refine do1 Tryz.func62 ?_
 refine jA 2 rfl ?_
 refine bx rfl ?_
 rintro _ w1 ⟨rfl,hb1,e1⟩
 have nx1:=hb1.lt
 have ns1:=e1.size
 refine jD 6 rfl<|ld rfl hb1 rfl<|jD 26 rfl ?_
 refine WC.seq<|WC.regionT (.q 0 (.q 1 (.q 3 (.q 4 (.alt (.l 2 (.l 5 (.q 6 (.l 7 (.q 8 (.nil)))))) (.l 5 (.l 2 (.q 6 (.l 7 (.q 8 (.nil))))))))))) (Ext _) mixed (by kernel_rfl) (Ext.drew _) ?_
 have nd1w1:w1.drew.heap.size=w1.heap.size:=rfl
 refine WX.q rfl rfl (fun _ hS=>r_fieldAddr rfl Fo.h) ?_
 refine WX.q rfl rfl (fun _ hS=>r_load Fb.h rfl hS (hb1.get rfl)) ?_
 refine WX.q rfl rfl (fun _ hS=>r_fieldAddr rfl Fo.h) ?_
 refine WX.q rfl rfl (fun _ hS=>r_load Fb.h rfl hS (hb1.get rfl)) ?_
 refine WX.alt ?_ ?_
 ·refine LL.cx rfl rfl (di (k:=17) (s:=152) (by decide)) ?_
  rintro v2 w2 ⟨rfl,e2⟩
  have ns2:=e2.size
  refine⟨LL.ch,?_⟩
  refine WX.l rfl rfl (l_s2b Fb.h Fb.h rfl) ?_
  rintro v3 w3 ⟨⟨c,rfl,qc⟩,hBy,ql,e3⟩
  have hZ1:=IsB.s2b (A:=fun b=>w.heap.size≤b) hBy qc (by show w.heap.size≤_;omega)
  have ns3:=e3.size
  refine⟨LL.ch,?_⟩
  refine WX.q rfl rfl (fun _ hS=>r_bld (cs:=[_,_]) Fo.h rfl rfl) ?_
  replace hb1:=((hb1.mono (Ext.drew _)).mono e2).mono e3
  have hx4b1:=hb1.lt
  refine WX.l rfl rfl (ll [_]) ?_
  rintro _ w4 ⟨rfl,hb4,e4⟩
  have ns4:=e4.size
  refine⟨LL.ch,?_⟩
  refine WX.q rfl rfl (fun _ hS=>r_assign rfl) ?_
  refine WX.nil ?_
  refine WC.ret ?_
  replace hZ1:=hZ1.mono e4
  exact ml
 ·refine WX.l rfl rfl (l_s2b Fb.h Fb.h rfl) ?_
  rintro v2 w2 ⟨⟨c,rfl,qc⟩,hBy,ql,e2⟩
  have hZ1:=IsB.s2b (A:=fun b=>w.heap.size≤b) hBy qc (by show w.heap.size≤_;omega)
  have ns2:=e2.size
  refine⟨LL.ch,?_⟩
  refine LL.cx rfl rfl (di (k:=17) (s:=152) (by decide)) ?_
  rintro v3 w3 ⟨rfl,e3⟩
  have ns3:=e3.size
  refine⟨LL.ch,?_⟩
  refine WX.q rfl rfl (fun _ hS=>r_bld (cs:=[_,_]) Fo.h rfl rfl) ?_
  replace hb1:=((hb1.mono (Ext.drew _)).mono e2).mono e3
  have hx4b1:=hb1.lt
  refine WX.l rfl rfl (ll [_]) ?_
  rintro _ w4 ⟨rfl,hb4,e4⟩
  have ns4:=e4.size
  refine⟨LL.ch,?_⟩
  refine WX.q rfl rfl (fun _ hS=>r_assign rfl) ?_
  refine WX.nil ?_
  refine WC.ret ?_
  replace hZ1:=(hZ1.mono e3).mono e4
  exact ml
theorem pY:cA 18:=by
 intro A n t ks o d cx fb w hx hn h1 ht
 obtain⟨pk,ck,pd,cd,rfl,_,_,_,_⟩:=hx.openV
 refine do1 Tryz.func62 ?_
 refine jA 2 rfl ?_
 refine bx rfl ?_
 rintro _ w1 ⟨rfl,hb1,e1⟩
 have nx1:=hb1.lt
 have ns1:=e1.size
 refine jD 6 rfl<|ld rfl hb1 rfl<|jD 35 rfl<|ld rfl hb1 rfl ?_
 refine WL.l rfl (l_s2b Fb.h Fb.h rfl) ?_
 rintro v2 w2 ⟨⟨c,rfl,qc⟩,hBy,ql,e2⟩
 have hZ1:=IsB.s2b (A:=fun _=>True) hBy qc trivial
 have ns2:=e2.size
 refine cl rfl (aP (c:=none) (d:=t) hZ1 ht (fun n h=>by cases h)) ?_
 rintro v3 w3 ⟨hO,e3⟩
 have ns3:=e3.size
 refine jC 2 rfl<|WC.ret ?_
 have hX:=hO.toX
 exact fin1 rfl ⟨⟨_,⟨fun p hp=>by rcases fa hp with⟨e,h⟩|e;exact e▸⟨160,rfl,.bin1 h⟩;exact e▸⟨176,rfl,.bin4 (by omega)⟩,Nat.le_trans bA (by omega),fun e=>(by have:=bh (s:=160) (l:=176) (d:=t);rw[e]at this;cases this),fun _=>⟨_,bh,(by show(176:Int)=bU 18;decide)⟩⟩,hX.low fun b h=>by show w.heap.size≤b;omega⟩,ch⟩
theorem pT:cA 19:=by
 intro A n t ks o d cx fb w hx hn h1 ht
 obtain⟨pk,ck,pd,cd,rfl,_,_,_,_⟩:=hx.openV
 refine do1 Tryz.func62 ?_
 refine jA 2 rfl ?_
 refine bx rfl ?_
 rintro _ w1 ⟨rfl,hb1,e1⟩
 have nx1:=hb1.lt
 have ns1:=e1.size
 refine jD 6 rfl<|ld rfl hb1 rfl<|jD 41 rfl<|ld rfl hb1 rfl ?_
 refine WL.l rfl (l_s2b Fb.h Fb.h rfl) ?_
 rintro v2 w2 ⟨⟨c,rfl,qc⟩,hBy,ql,e2⟩
 have hZ1:=IsB.s2b (A:=fun _=>True) hBy qc trivial
 have ns2:=e2.size
 refine cl rfl (aP (c:=none) (d:=t) hZ1 ht (fun n h=>by cases h)) ?_
 rintro v3 w3 ⟨hO,e3⟩
 have ns3:=e3.size
 refine jC 2 rfl<|WC.ret ?_
 have hX:=hO.toX
 exact fin1 rfl ⟨⟨_,⟨fun p hp=>by rcases fa hp with⟨e,h⟩|e;exact e▸⟨161,rfl,.str1 h⟩;exact e▸⟨177,rfl,.str4 (by omega)⟩,Nat.le_trans bA (by omega),fun e=>(by have:=bh (s:=161) (l:=177) (d:=t);rw[e]at this;cases this),fun _=>⟨_,bh,(by show(177:Int)=bU 19;decide)⟩⟩,hX.low fun b h=>by show w.heap.size≤b;omega⟩,ch⟩
theorem o5:cA 20:=by
 intro A n t ks o d cx fb w hx hn h1 ht
 obtain⟨pk,ck,pd,cd,rfl,_,_,_,_⟩:=hx.openV
 refine do1 Tryz.func62 ?_
 refine jA 2 rfl ?_
 refine bx rfl ?_
 rintro _ w1 ⟨rfl,hb1,e1⟩
 have nx1:=hb1.lt
 have ns1:=e1.size
 refine jD 6 rfl<|ld rfl hb1 rfl<|jD 47 rfl<|ld rfl hb1 rfl ?_
 refine WL.l rfl (l_s2b Fb.h Fb.h rfl) ?_
 rintro v2 w2 ⟨⟨c,rfl,qc⟩,hBy,ql,e2⟩
 have hZ1:=IsB.s2b (A:=fun _=>True) hBy qc trivial
 have ns2:=e2.size
 refine cl rfl (aP (c:=none) (d:=t) hZ1 ht (fun n h=>by cases h)) ?_
 rintro v3 w3 ⟨hO,e3⟩
 have ns3:=e3.size
 refine jC 2 rfl<|WC.ret ?_
 have hX:=hO.toX
 exact fin1 rfl ⟨⟨_,⟨fun p hp=>by rcases fa hp with⟨e,h⟩|e;exact e▸⟨163,rfl,.sym1 h⟩;exact e▸⟨179,rfl,.sym4 (by omega)⟩,Nat.le_trans bA (by omega),fun e=>(by have:=bh (s:=163) (l:=179) (d:=t);rw[e]at this;cases this),fun _=>⟨_,bh,(by show(179:Int)=bU 20;decide)⟩⟩,hX.low fun b h=>by show w.heap.size≤b;omega⟩,ch⟩
theorem eA{k:Int}(h:(0≤k∧k≤11)∨(16≤k∧k≤20)):cA k:=by
 rcases(show k=0∨k=1∨k=2∨k=3∨k=4∨k=5∨k=6∨k=7∨k=8∨k=9∨k=10∨k=11∨k=16∨k=17∨k=18∨k=19∨k=20 by omega)with rfl|rfl|rfl|rfl|rfl|rfl|rfl|rfl|rfl|rfl|rfl|rfl|rfl|rfl|rfl|rfl|rfl
 ·exact rS
 ·exact qY
 ·exact ri
 ·exact rP
 ·exact rz
 ·exact rV
 ·exact rO
 ·exact rX
 ·exact rR
 ·exact rB
 ·exact oN
 ·exact pg
 ·exact pS
 ·exact pK
 ·exact pY
 ·exact pT
 ·exact o5
end Go.Proofs.LL
