/- Own laws of frames, operations and loops, and contracts of functions of the program. Conditions: those that each theorem states. -/
import Derived.Test.YtdgbmbjkbmpcbaaGreatDoorV49
set_option linter.all false
set_option maxRecDepth 20000
namespace Go.Proofs.LL
open Go Go.Proofs Go.RowKit
set_option maxHeartbeats 4000000
attribute [local irreducible] RunOp WL WC WDL WT WX
mutual
theorem cC:∀x:V,ah (usual x)≤ah x
 | .mk k n t ks o d=>by
  have h:=dI ks
  rw[usual]
  split
  ·rw[ah,ah,ad];omega
  ·split
   ·rw[ah,ah];omega
   ·split
    ·have:=cw (usualL ks)
     rw[ah,ah];omega
    ·rw[ah,ah];omega
theorem dI:∀l:List V,ad (usualL l)≤ad l
 |[]=>Nat.le_refl _
 |x::r=>by
  have h:=cC x
  have h2:=dI r
  rw[usualL,ad,ad];omega
theorem cw:∀l:List V,ad (dropNulls l)≤ad l
 |[]=>Nat.le_refl _
 |a::r=>by
  have h:=cw r
  rw[dropNulls]
  split
  ·split
   ·simp[ad]
   ·rw[ad,ad,ad];omega
  ·rename_i b s e
   rw[e]at h
   simp only[ad]at h⊢;omega
end
def bF(x d:V):V:=if x.kind=0 then d else x
def ar(v d x y:V):Prop:=∀(A B C:Nat→Prop) (c1 c2 cx cy:List Value) (w:World),ag A w v c1→ag A w d c2→ag B w x cx→ag C w y cy→
 Does TP 90 [.agg (c1++c2).toArray,.agg cx.toArray,.agg cy.toArray] w fun r w'=>r= .bool true∧Ext w w'
theorem bn{A:Nat→Prop}{x:V}{cx:List Value}{w:World}(hv:ah x≤1000000000)(hx:ag A w x cx):
  Does TP 178 [.agg cx.toArray] w fun r w'=>∃a b c d e f,r= .agg #[a,b,c,d,e,f]∧ag (fun _=>True) w' (usual x) [a,b,c,d,e,f]∧Ext w w':=
 (mw x A cx w hv hx).imp fun r w' ⟨a,b,c,d,e,f,h1,h2,h3⟩=>⟨a,b,c,d,e,f,h1,h2.any,h3⟩
theorem dC{A B:Nat→Prop}{x y:V}{cx cy:List Value}{w:World}(hN:ND x)(hv:ah x≤1000000000)(hv2:ah y≤1000000000)(hL:av x y)(hx:ag A w x cx)(hy:ag B w y cy):
  Does TP 177 [.agg cx.toArray,.agg cy.toArray] w fun r w'=>r= .bool true∧Ext w w':=
 (mN x A B y cx cy w hN hv hv2 hx hy).imp fun r w' ⟨b,h1,h2,h3⟩=>⟨by rw[h1,h2 hL],h3⟩
theorem ar.plain{v d x y:V}(hd:(bF x d).desc.length≠1)(hN:ND (usual (bF x d)))(hL:av (usual (bF x d)) (usual (bF y d)))(n1:ah (bF x d)≤1000000000)(n2:ah (bF y d)≤1000000000):ar v d x y:=by
 intro A B C c1 c2 cx cy w hv hdv hx hy
 replace hv:=hv.weakenW (B:=fun b=>b<w.heap.size) (fun b hb _=>hb)
 replace hdv:=hdv.weakenW (B:=fun b=>b<w.heap.size) (fun b hb _=>hb)
 replace hx:=hx.weakenW (B:=fun b=>b<w.heap.size) (fun b hb _=>hb)
 replace hy:=hy.weakenW (B:=fun b=>b<w.heap.size) (fun b hb _=>hb)
 have q12:=cY hv.one hdv.one
 have qu1:=cC (bF x d)
 have qu2:=cC (bF y d)
 obtain⟨v0,v1,v2,v3,v4,v5,rfl⟩:=hv.six
 obtain⟨kd,nd,td,ksd,od,dd⟩:=d
 obtain⟨k,n,t,ks,o,dx⟩:=x
 obtain⟨k',n',t',ks',o',dy⟩:=y
 obtain⟨p1,e1,p2,e2,rfl,_⟩:=hdv.openV
 obtain⟨p3,e3,p4,e4,rfl,_⟩:=hx.openV
 obtain⟨p5,e5,p6,e6,rfl,_⟩:=hy.openV
 rcases Decidable.em (k=0)with qk|qk
 ·have ex:bF (.mk k n t ks o dx) (.mk kd nd td ksd od dd)= .mk kd nd td ksd od dd:=if_pos qk
  rw[ex]at hd hN hL n1 qu1
  simp only[V.desc]at hd
  rcases Decidable.em (k'=0)with qk'|qk'
  ·have ey:bF (.mk k' n' t' ks' o' dy) (.mk kd nd td ksd od dd)= .mk kd nd td ksd od dd:=if_pos qk'
   rw[ey]at hL n2 qu2
   refine do1 Tryz.func90 ?_
   have he:Evo (fun b=>b<w.heap.size) w w:=Evo.refl w
   refine jA 2 rfl ?_
   have hs1:=he.size
   refine bx rfl ?_
   rintro _ w1 ⟨rfl,hb1,e1⟩
   have nx1:=hb1.lt
   have ns1:=e1.size
   replace he:=he.then e1
   have hs2:=he.size
   have hx2b1:=hb1.lt
   refine bx rfl ?_
   rintro _ w2 ⟨rfl,hb2,e2⟩
   have nx2:=hb2.lt
   have ns2:=e2.size
   replace he:=he.then e2
   have hs3:=he.size
   replace hb1:=hb1.mono e2
   have hx3b1:=hb1.lt
   have hx3b2:=hb2.lt
   refine bx rfl ?_
   rintro _ w3 ⟨rfl,hb3,e3⟩
   have nx3:=hb3.lt
   have ns3:=e3.size
   refine jD 6 rfl ?_
   replace hb2:=hb2.mono e3
   refine ld rfl hb2 rfl<|WL.q rfl (r_cmp (r_eql rfl rfl) (beqT (qk)))<|jD 4 rfl ?_
   replace hb1:=hb1.mono e3
   refine WL.q rfl (r_loadAgg Fo.h rfl (Ext.refl _) (At.suf (c:=[_,_,_,_,_,_]) hb1.at) (hn:=rfl)) ?_
   refine WL.l0 (lsw rfl rfl hb2) ?_
   rintro _ w4 ⟨hb2,e4,hz4⟩
   have ns4:=e4.size
   refine jD 5 rfl ?_
   replace hb3:=hb3.mono e4
   refine ld rfl hb3 rfl<|WL.q rfl (r_cmp (r_eql rfl rfl) (beqT (qk')))<|jD 4 rfl ?_
   replace hb1:=hb1.mono e4
   refine WL.q rfl (r_loadAgg Fo.h rfl (Ext.refl _) (At.suf (c:=[_,_,_,_,_,_]) hb1.at) (hn:=rfl)) ?_
   refine WL.l0 (lsw rfl rfl hb3) ?_
   rintro _ w5 ⟨hb3,e5,hz5⟩
   have ns5:=e5.size
   refine WL.nil ?_
   replace hdv:=((((hdv.mono e1).mono e2).mono e3).mono e4).mono e5
   replace hx:=((((hx.mono e1).mono e2).mono e3).mono e4).mono e5
   replace hy:=((((hy.mono e1).mono e2).mono e3).mono e4).mono e5
   replace hb1:=hb1.mono e5
   replace hb2:=hb2.mono e5
   refine WC.seq<|WC.seq<|WC.regionD (tt [0,1,2,3,4,5,6,7,8,9,10,11,12,13,14,15,16,17,18,19,20,21,22,23,24,25,26,27,28]++ff [29]++tt [30]) (Ext _) mixed (by kernel_rfl) (Ext.drew _) ?_
   have nd1w5:w5.drew.heap.size=w5.heap.size:=rfl
   refine jE 1 rfl<|dl rfl hb2 rfl<|jE 1 rfl ?_
   refine WD.q rfl (fun _ hS=>r_cmp (r_eql rfl rfl) (beqF (by(omega)))) ?_
   refine jE 25 rfl ?_
   refine WD.lsk rfl ((Evo.drew _)) rfl rfl rfl rfl rfl ?_
   refine jE 1 rfl<|WD.nil<|jA 2 rfl ?_
   replace hdv:=hdv.mono (Ext.drew _)
   replace hx:=hx.mono (Ext.drew _)
   replace hy:=hy.mono (Ext.drew _)
   replace hb1:=hb1.mono (Ext.drew _)
   replace hb2:=hb2.mono (Ext.drew _)
   replace hb3:=hb3.mono (Ext.drew _)
   refine WC.seq<|WC.regionD (tt [0,2]++ff [1,3,4]++tt [5]) (Ext _) mixed (by kernel_rfl) (Ext.drew _) ?_
   have nd2w5:w5.drew.drew.heap.size=w5.heap.size:=rfl
   have nd1w5:w5.drew.heap.size=w5.heap.size:=rfl
   refine WD.q rfl (fun _ hS=>r_loadAgg Fo.h rfl hS hb2.at (hn:=by first|rfl|assumption)) ?_
   refine WD.q rfl (fun _ hS=>r_loadAgg Fo.h rfl hS hb3.at (hn:=by first|rfl|assumption)) ?_
   refine cd rfl (bn n1 (hdv.mono (Ext.drew _))) ?_
   rintro v6 w6 ⟨x0,x1,x2,x3,x4,x5,rfl,hU,e6⟩
   have ns6:=e6.size
   refine⟨((Evo.drew _).then e6),?_⟩
   refine cd rfl (bn n2 ((hdv.mono (Ext.drew _)).mono e6)) ?_
   rintro v7 w7 ⟨y0,y1,y2,y3,y4,y5,rfl,hU2,e7⟩
   have ns7:=e7.size
   refine⟨(((Evo.drew _).then e6).then e7),?_⟩
   refine cd rfl (dC hN (by omega) (by omega) hL (hU.mono e7) hU2) ?_
   rintro v8 w8 ⟨rfl,e8⟩
   have ns8:=e8.size
   refine⟨((((Evo.drew _).then e6).then e7).then e8),?_⟩
   refine jE 1 rfl<|WD.nil<|WC.ret ?_
   replace he:=(((((((he.then e3).then e4).then e5).then (Ext.drew _)).then (Ext.drew _)).then e6).then e7).then e8
   exact fin1 rfl ⟨rfl,he.weaken fun k hk _=>hk⟩
  ·have ey:bF (.mk k' n' t' ks' o' dy) (.mk kd nd td ksd od dd)= .mk k' n' t' ks' o' dy:=if_neg qk'
   rw[ey]at hL n2 qu2
   refine do1 Tryz.func90 ?_
   have he:Evo (fun b=>b<w.heap.size) w w:=Evo.refl w
   refine jA 2 rfl ?_
   have hs1:=he.size
   refine bx rfl ?_
   rintro _ w1 ⟨rfl,hb1,e1⟩
   have nx1:=hb1.lt
   have ns1:=e1.size
   replace he:=he.then e1
   have hs2:=he.size
   have hx2b1:=hb1.lt
   refine bx rfl ?_
   rintro _ w2 ⟨rfl,hb2,e2⟩
   have nx2:=hb2.lt
   have ns2:=e2.size
   replace he:=he.then e2
   have hs3:=he.size
   replace hb1:=hb1.mono e2
   have hx3b1:=hb1.lt
   have hx3b2:=hb2.lt
   refine bx rfl ?_
   rintro _ w3 ⟨rfl,hb3,e3⟩
   have nx3:=hb3.lt
   have ns3:=e3.size
   refine jD 6 rfl ?_
   replace hb2:=hb2.mono e3
   refine ld rfl hb2 rfl<|WL.q rfl (r_cmp (r_eql rfl rfl) (beqT (qk)))<|jD 4 rfl ?_
   replace hb1:=hb1.mono e3
   refine WL.q rfl (r_loadAgg Fo.h rfl (Ext.refl _) (At.suf (c:=[_,_,_,_,_,_]) hb1.at) (hn:=rfl)) ?_
   refine WL.l0 (lsw rfl rfl hb2) ?_
   rintro _ w4 ⟨hb2,e4,hz4⟩
   have ns4:=e4.size
   refine jD 5 rfl ?_
   replace hb3:=hb3.mono e4
   refine ld rfl hb3 rfl<|WL.q rfl (r_cmp (r_eql rfl rfl) (beqF (qk')))<|jD 3 rfl ?_
   replace hdv:=(((hdv.mono e1).mono e2).mono e3).mono e4
   replace hx:=(((hx.mono e1).mono e2).mono e3).mono e4
   replace hy:=(((hy.mono e1).mono e2).mono e3).mono e4
   replace hb1:=hb1.mono e4
   refine WC.seq<|WC.seq<|WC.regionD (tt [0,1,2,3,4,5,6,7,8,9,10,11,12,13,14,15,16,17,18,19,20,21,22,23,24,25,26,27,28]++ff [29]++tt [30]) (Ext _) mixed (by kernel_rfl) (Ext.drew _) ?_
   have nd1w4:w4.drew.heap.size=w4.heap.size:=rfl
   refine jE 1 rfl<|dl rfl hb2 rfl<|jE 1 rfl ?_
   refine WD.q rfl (fun _ hS=>r_cmp (r_eql rfl rfl) (beqF (by(omega)))) ?_
   refine jE 25 rfl ?_
   refine WD.lsk rfl ((Evo.drew _)) rfl rfl rfl rfl rfl ?_
   refine jE 1 rfl<|WD.nil<|jA 2 rfl ?_
   replace hdv:=hdv.mono (Ext.drew _)
   replace hx:=hx.mono (Ext.drew _)
   replace hy:=hy.mono (Ext.drew _)
   replace hb1:=hb1.mono (Ext.drew _)
   replace hb2:=hb2.mono (Ext.drew _)
   replace hb3:=hb3.mono (Ext.drew _)
   refine WC.seq<|WC.regionD (tt [0,2]++ff [1,3,4]++tt [5]) (Ext _) mixed (by kernel_rfl) (Ext.drew _) ?_
   have nd2w4:w4.drew.drew.heap.size=w4.heap.size:=rfl
   have nd1w4:w4.drew.heap.size=w4.heap.size:=rfl
   refine WD.q rfl (fun _ hS=>r_loadAgg Fo.h rfl hS hb2.at (hn:=by first|rfl|assumption)) ?_
   refine WD.q rfl (fun _ hS=>r_loadAgg Fo.h rfl hS hb3.at (hn:=by first|rfl|assumption)) ?_
   refine cd rfl (bn n1 (hdv.mono (Ext.drew _))) ?_
   rintro v5 w5 ⟨x0,x1,x2,x3,x4,x5,rfl,hU,e5⟩
   have ns5:=e5.size
   refine⟨((Evo.drew _).then e5),?_⟩
   refine cd rfl (bn n2 ((hy.mono (Ext.drew _)).mono e5)) ?_
   rintro v6 w6 ⟨y0,y1,y2,y3,y4,y5,rfl,hU2,e6⟩
   have ns6:=e6.size
   refine⟨(((Evo.drew _).then e5).then e6),?_⟩
   refine cd rfl (dC hN (by omega) (by omega) hL (hU.mono e6) hU2) ?_
   rintro v7 w7 ⟨rfl,e7⟩
   have ns7:=e7.size
   refine⟨((((Evo.drew _).then e5).then e6).then e7),?_⟩
   refine jE 1 rfl<|WD.nil<|WC.ret ?_
   replace he:=((((((he.then e3).then e4).then (Ext.drew _)).then (Ext.drew _)).then e5).then e6).then e7
   exact fin1 rfl ⟨rfl,he.weaken fun k hk _=>hk⟩
 ·have ex:bF (.mk k n t ks o dx) (.mk kd nd td ksd od dd)= .mk k n t ks o dx:=if_neg qk
  rw[ex]at hd hN hL n1 qu1
  simp only[V.desc]at hd
  rcases Decidable.em (k'=0)with qk'|qk'
  ·have ey:bF (.mk k' n' t' ks' o' dy) (.mk kd nd td ksd od dd)= .mk kd nd td ksd od dd:=if_pos qk'
   rw[ey]at hL n2 qu2
   refine do1 Tryz.func90 ?_
   have he:Evo (fun b=>b<w.heap.size) w w:=Evo.refl w
   refine jA 2 rfl ?_
   have hs1:=he.size
   refine bx rfl ?_
   rintro _ w1 ⟨rfl,hb1,e1⟩
   have nx1:=hb1.lt
   have ns1:=e1.size
   replace he:=he.then e1
   have hs2:=he.size
   have hx2b1:=hb1.lt
   refine bx rfl ?_
   rintro _ w2 ⟨rfl,hb2,e2⟩
   have nx2:=hb2.lt
   have ns2:=e2.size
   replace he:=he.then e2
   have hs3:=he.size
   replace hb1:=hb1.mono e2
   have hx3b1:=hb1.lt
   have hx3b2:=hb2.lt
   refine bx rfl ?_
   rintro _ w3 ⟨rfl,hb3,e3⟩
   have nx3:=hb3.lt
   have ns3:=e3.size
   refine jD 6 rfl ?_
   replace hb2:=hb2.mono e3
   refine ld rfl hb2 rfl<|WL.q rfl (r_cmp (r_eql rfl rfl) (beqF (qk)))<|jD 3 rfl<|jA 4 rfl<|ld rfl hb3 rfl<|WL.q rfl (r_cmp (r_eql rfl rfl) (beqT (qk')))<|jD 4 rfl ?_
   replace hb1:=hb1.mono e3
   refine WL.q rfl (r_loadAgg Fo.h rfl (Ext.refl _) (At.suf (c:=[_,_,_,_,_,_]) hb1.at) (hn:=rfl)) ?_
   refine WL.l0 (lsw rfl rfl hb3) ?_
   rintro _ w4 ⟨hb3,e4,hz4⟩
   have ns4:=e4.size
   refine WL.nil ?_
   replace hdv:=((hdv.mono e1).mono e2).mono (e3.then e4)
   replace hx:=((hx.mono e1).mono e2).mono (e3.then e4)
   replace hy:=((hy.mono e1).mono e2).mono (e3.then e4)
   replace hb1:=hb1.mono e4
   replace hb2:=hb2.mono e4
   refine WC.seq<|WC.seq<|WC.regionD (tt [0,1,2,3,4,5,6,7,8,9,10,11,12,13,14,15,16,17,18,19,20,21,22,23,24,25,26,27,28]++ff [29]++tt [30]) (Ext _) mixed (by kernel_rfl) (Ext.drew _) ?_
   have nd1w4:w4.drew.heap.size=w4.heap.size:=rfl
   refine jE 1 rfl<|dl rfl hb2 rfl<|jE 1 rfl ?_
   refine WD.q rfl (fun _ hS=>r_cmp (r_eql rfl rfl) (beqF (by(omega)))) ?_
   refine jE 25 rfl ?_
   refine WD.lsk rfl ((Evo.drew _)) rfl rfl rfl rfl rfl ?_
   refine jE 1 rfl<|WD.nil<|jA 2 rfl ?_
   replace hdv:=hdv.mono (Ext.drew _)
   replace hx:=hx.mono (Ext.drew _)
   replace hy:=hy.mono (Ext.drew _)
   replace hb1:=hb1.mono (Ext.drew _)
   replace hb2:=hb2.mono (Ext.drew _)
   replace hb3:=hb3.mono (Ext.drew _)
   refine WC.seq<|WC.regionD (tt [0,2]++ff [1,3,4]++tt [5]) (Ext _) mixed (by kernel_rfl) (Ext.drew _) ?_
   have nd2w4:w4.drew.drew.heap.size=w4.heap.size:=rfl
   have nd1w4:w4.drew.heap.size=w4.heap.size:=rfl
   refine WD.q rfl (fun _ hS=>r_loadAgg Fo.h rfl hS hb2.at (hn:=by first|rfl|assumption)) ?_
   refine WD.q rfl (fun _ hS=>r_loadAgg Fo.h rfl hS hb3.at (hn:=by first|rfl|assumption)) ?_
   refine cd rfl (bn n1 (hx.mono (Ext.drew _))) ?_
   rintro v5 w5 ⟨x0,x1,x2,x3,x4,x5,rfl,hU,e5⟩
   have ns5:=e5.size
   refine⟨((Evo.drew _).then e5),?_⟩
   refine cd rfl (bn n2 ((hdv.mono (Ext.drew _)).mono e5)) ?_
   rintro v6 w6 ⟨y0,y1,y2,y3,y4,y5,rfl,hU2,e6⟩
   have ns6:=e6.size
   refine⟨(((Evo.drew _).then e5).then e6),?_⟩
   refine cd rfl (dC hN (by omega) (by omega) hL (hU.mono e6) hU2) ?_
   rintro v7 w7 ⟨rfl,e7⟩
   have ns7:=e7.size
   refine⟨((((Evo.drew _).then e5).then e6).then e7),?_⟩
   refine jE 1 rfl<|WD.nil<|WC.ret ?_
   replace he:=(((((he.then (e3.then e4)).then (Ext.drew _)).then (Ext.drew _)).then e5).then e6).then e7
   exact fin1 rfl ⟨rfl,he.weaken fun k hk _=>hk⟩
  ·have ey:bF (.mk k' n' t' ks' o' dy) (.mk kd nd td ksd od dd)= .mk k' n' t' ks' o' dy:=if_neg qk'
   rw[ey]at hL n2 qu2
   refine do1 Tryz.func90 ?_
   have he:Evo (fun b=>b<w.heap.size) w w:=Evo.refl w
   refine jA 2 rfl ?_
   have hs1:=he.size
   refine bx rfl ?_
   rintro _ w1 ⟨rfl,hb1,e1⟩
   have nx1:=hb1.lt
   have ns1:=e1.size
   replace he:=he.then e1
   have hs2:=he.size
   have hx2b1:=hb1.lt
   refine bx rfl ?_
   rintro _ w2 ⟨rfl,hb2,e2⟩
   have nx2:=hb2.lt
   have ns2:=e2.size
   replace he:=he.then e2
   have hs3:=he.size
   replace hb1:=hb1.mono e2
   have hx3b1:=hb1.lt
   have hx3b2:=hb2.lt
   refine bx rfl ?_
   rintro _ w3 ⟨rfl,hb3,e3⟩
   have nx3:=hb3.lt
   have ns3:=e3.size
   refine jD 6 rfl ?_
   replace hb2:=hb2.mono e3
   refine ld rfl hb2 rfl<|WL.q rfl (r_cmp (r_eql rfl rfl) (beqF (qk)))<|jD 3 rfl<|jA 4 rfl<|ld rfl hb3 rfl<|WL.q rfl (r_cmp (r_eql rfl rfl) (beqF (qk')))<|jD 3 rfl ?_
   replace hdv:=((hdv.mono e1).mono e2).mono e3
   replace hx:=((hx.mono e1).mono e2).mono e3
   replace hy:=((hy.mono e1).mono e2).mono e3
   replace hb1:=hb1.mono e3
   refine WC.seq<|WC.seq<|WC.regionD (tt [0,1,2,3,4,5,6,7,8,9,10,11,12,13,14,15,16,17,18,19,20,21,22,23,24,25,26,27,28]++ff [29]++tt [30]) (Ext _) mixed (by kernel_rfl) (Ext.drew _) ?_
   have nd1w3:w3.drew.heap.size=w3.heap.size:=rfl
   refine jE 1 rfl<|dl rfl hb2 rfl<|jE 1 rfl ?_
   refine WD.q rfl (fun _ hS=>r_cmp (r_eql rfl rfl) (beqF (by(omega)))) ?_
   refine jE 25 rfl ?_
   refine WD.lsk rfl ((Evo.drew _)) rfl rfl rfl rfl rfl ?_
   refine jE 1 rfl<|WD.nil<|jA 2 rfl ?_
   replace hdv:=hdv.mono (Ext.drew _)
   replace hx:=hx.mono (Ext.drew _)
   replace hy:=hy.mono (Ext.drew _)
   replace hb1:=hb1.mono (Ext.drew _)
   replace hb2:=hb2.mono (Ext.drew _)
   replace hb3:=hb3.mono (Ext.drew _)
   refine WC.seq<|WC.regionD (tt [0,2]++ff [1,3,4]++tt [5]) (Ext _) mixed (by kernel_rfl) (Ext.drew _) ?_
   have nd2w3:w3.drew.drew.heap.size=w3.heap.size:=rfl
   have nd1w3:w3.drew.heap.size=w3.heap.size:=rfl
   refine WD.q rfl (fun _ hS=>r_loadAgg Fo.h rfl hS hb2.at (hn:=by first|rfl|assumption)) ?_
   refine WD.q rfl (fun _ hS=>r_loadAgg Fo.h rfl hS hb3.at (hn:=by first|rfl|assumption)) ?_
   refine cd rfl (bn n1 (hx.mono (Ext.drew _))) ?_
   rintro v4 w4 ⟨x0,x1,x2,x3,x4,x5,rfl,hU,e4⟩
   have ns4:=e4.size
   refine⟨((Evo.drew _).then e4),?_⟩
   refine cd rfl (bn n2 ((hy.mono (Ext.drew _)).mono e4)) ?_
   rintro v5 w5 ⟨y0,y1,y2,y3,y4,y5,rfl,hU2,e5⟩
   have ns5:=e5.size
   refine⟨(((Evo.drew _).then e4).then e5),?_⟩
   refine cd rfl (dC hN (by omega) (by omega) hL (hU.mono e5) hU2) ?_
   rintro v6 w6 ⟨rfl,e6⟩
   have ns6:=e6.size
   refine⟨((((Evo.drew _).then e4).then e5).then e6),?_⟩
   refine jE 1 rfl<|WD.nil<|WC.ret ?_
   replace he:=(((((he.then e3).then (Ext.drew _)).then (Ext.drew _)).then e4).then e5).then e6
   exact fin1 rfl ⟨rfl,he.weaken fun k hk _=>hk⟩
theorem ec{A B C:Nat→Prop}{code:Nat}{fs:List (V×V)}{cells:List Value}{xs ys:List V}{pa pb:Option Addr}{ca cb:Nat}{w:World}(hC:aN A w code fs cells)(hx:aD B w xs.length (.slice pa xs.length ca) (aa B w xs))(hy:aD C w ys.length (.slice pb ys.length cb) (aa C w ys))(hl:fs.length≤1000)(hlx:xs.length=fs.length)(hly:ys.length=fs.length)(hf:∀i (h:i<fs.length),ar fs[i].1 fs[i].2 (aq xs i) (aq ys i)):
  Does TP 63 [.agg cells.toArray,.slice pa xs.length ca,.slice pb ys.length cb] w fun r w'=>r= .bool true∧Ext w w':=by
 replace hC:=hC.lowW (B:=fun b=>b<w.heap.size) fun b hb _=>hb
 replace hx:=hx.weakW (B:=fun b=>b<w.heap.size) fun b hb _=>hb
 replace hy:=hy.weakW (B:=fun b=>b<w.heap.size) fun b hb _=>hb
 obtain⟨p,c,rfl⟩:=hC.open
 refine do1 Tryz.func63 ?_
 have he:Evo (fun b=>b<w.heap.size) w w:=Evo.refl w
 refine jA 2 rfl ?_
 have hs1:=he.size
 refine LL.bx rfl ?_
 rintro _ w1 ⟨rfl,hb1,e1⟩
 have nx1:=hb1.lt
 have ns1:=e1.size
 refine jD 8 rfl<|ld rfl hb1 rfl<|jC 1 rfl ?_
 refine WL.q rfl (r_cmp (r_gtr rfl rfl) (decide_eq_false (by(omega)))) ?_
 refine jC 4 rfl<|lg rfl rfl rfl hb1 rfl<|jC 1 rfl ?_
 refine WL.qg rfl rfl rfl rfl (r_cmp (r_gtr rfl rfl) (decide_eq_false (by(omega)))) ?_
 refine jD 4 rfl<|jA 4 rfl<|ld rfl hb1 rfl<|jD 4 rfl ?_
 replace hC:=hC.mono e1
 replace hx:=hx.mono e1
 replace hy:=hy.mono e1
 replace he:=he.then e1
 refine WC.loop2 (ι:=Nat) [(1,_),(2,_),(6,_),(26,_),(27,_)] (fun i=>[(28,.int .i64 (i:Int))]) (fun i wi=>i≤fs.length∧Ext w1 wi) (fun i=>fs.length-i) 0 sb sb (⟨Nat.zero_le _,Ext.refl _⟩) ?_
 intro i wi1 hh;obtain⟨ni,hE⟩:=hh
 have nwi:=hE.size
 rcases Nat.lt_or_ge i fs.length with qi|qi
 replace hC:=hC.mono hE
 ·obtain⟨b,o,a0,a1,a2,a3,a4,a5,b0,b1,b2,b3,b4,b5,rfl,qA,hAt,hR1,hR2,qc⟩:=hC.idx qi
  replace hx:=hx.mono hE
  obtain⟨bx,ox,cx,rfl,_,hA1,l1,hRx⟩:=hx.kid (i:=i) (by omega)
  replace hy:=hy.mono hE
  obtain⟨by',oy,cy,rfl,_,hA2,l2,hRy⟩:=hy.kid (i:=i) (by omega)
  obtain⟨x0,x1,x2,x3,x4,x5,rfl⟩:=hRx.six
  obtain⟨y0,y1,y2,y3,y4,y5,rfl⟩:=hRy.six
  have q12:[a0,a1,a2,a3,a4,a5,b0,b1,b2,b3,b4,b5].all (fun v=>v.oneCell')=true:=cY hR1.one hR2.one
  have q1x:=hRx.one
  have q1y:=hRy.one
  refine jA 2 rfl<|lT rfl rfl<|jD 9 rfl<|ix rfl rfl rfl<|WL.q rfl (r_loadAgg Fo.h rfl (Ext.refl _) hAt (hn:=rfl)) ?_
  replace he:=he.then hE
  have hs2:=he.size
  replace hb1:=hb1.mono hE
  have hx2b1:=hb1.lt
  refine al ?_
  rintro _ w2 ⟨rfl,hb2,e2⟩
  have nx2:=hb2.lt
  have ns2:=e2.size
  refine jC 1 rfl ?_
  refine WL.l0 (lsw rfl rfl hb2) ?_
  rintro _ w3 ⟨hb2,e3,hz3⟩
  have ns3:=e3.size
  refine jD 3 rfl<|WL.q rfl (r_bld (cs:=[_,_,_,_,_,_]) Fo.h rfl rfl)<|WL.q rfl (r_bld (cs:=[_,_,_,_,_,_]) Fo.h rfl rfl) ?_
  replace he:=he.then (e2.then e3)
  have hs4:=he.size
  replace hb1:=hb1.mono (e2.then e3)
  have hx4b1:=hb1.lt
  have hx4b2:=hb2.lt
  refine al ?_
  rintro _ w4 ⟨rfl,hb4,e4⟩
  have nx4:=hb4.lt
  have ns4:=e4.size
  replace he:=he.then e4
  have hs5:=he.size
  replace hb1:=hb1.mono e4
  have hx5b1:=hb1.lt
  replace hb2:=hb2.mono e4
  have hx5b2:=hb2.lt
  have hx5b4:=hb4.lt
  refine al ?_
  rintro _ w5 ⟨rfl,hb5,e5⟩
  have nx5:=hb5.lt
  have ns5:=e5.size
  replace hb4:=hb4.mono e5
  refine WL.l0 (lsw rfl rfl hb4) ?_
  rintro _ w6 ⟨hb4,e6,hz6⟩
  have ns6:=e6.size
  replace hb5:=hb5.mono e6
  refine WL.l0 (lsw rfl rfl hb5) ?_
  rintro _ w7 ⟨hb5,e7,hz7⟩
  have ns7:=e7.size
  refine jD 7 rfl<|lT rfl rfl<|jD 5 rfl<|ix rfl rfl rfl ?_
  replace hA1:=((((hA1.mono (e2.then e3)).mono e4).mono e5).mono e6).mono e7
  refine WL.q rfl (r_loadAgg Fo.h rfl (Ext.refl _) hA1 (hn:=rfl)) ?_
  replace hb4:=hb4.mono e7
  refine WL.l0 (lsw rfl rfl hb4) ?_
  rintro _ w8 ⟨hb4,e8,hz8⟩
  have ns8:=e8.size
  refine jD 7 rfl<|lT rfl rfl<|jD 5 rfl<|ix rfl rfl rfl ?_
  replace hA2:=(((((hA2.mono (e2.then e3)).mono e4).mono e5).mono e6).mono e7).mono e8
  refine WL.q rfl (r_loadAgg Fo.h rfl (Ext.refl _) hA2 (hn:=rfl)) ?_
  replace hb5:=hb5.mono e8
  refine WL.l0 (lsw rfl rfl hb5) ?_
  rintro _ w9 ⟨hb5,e9,hz9⟩
  have ns9:=e9.size
  refine jD 3 rfl ?_
  replace hb2:=((((hb2.mono e5).mono e6).mono e7).mono e8).mono e9
  refine la rfl hb2 ?_
  replace hb4:=hb4.mono e9
  refine la rfl hb4<|la rfl hb5 ?_
  replace hR1:=((((((hR1.mono (e2.then e3)).mono e4).mono e5).mono e6).mono e7).mono e8).mono e9
  replace hR2:=((((((hR2.mono (e2.then e3)).mono e4).mono e5).mono e6).mono e7).mono e8).mono e9
  replace hRx:=((((((hRx.mono (e2.then e3)).mono e4).mono e5).mono e6).mono e7).mono e8).mono e9
  replace hRy:=((((((hRy.mono (e2.then e3)).mono e4).mono e5).mono e6).mono e7).mono e8).mono e9
  refine cl rfl (hf i qi _ _ _ [a0,a1,a2,a3,a4,a5] [b0,b1,b2,b3,b4,b5] [x0,x1,x2,x3,x4,x5] [y0,y1,y2,y3,y4,y5] _ hR1 hR2 hRx hRy) ?_
  rintro v10 w10 ⟨rfl,e10⟩
  have ns10:=e10.size
  refine jD 4 rfl<|jA 1 rfl<|ai rfl rfl rfl<|jC 2 rfl ?_
  exact⟨i+1,sb,sb,⟨qi,(((((((((hE.then (e2.then e3)).then e4).then e5).then e6).then e7).then e8).then e9).then e10))⟩,by omega⟩
 ·refine jA 2 rfl<|lF rfl rfl<|jD 3 rfl<|WC.exit<|jA 4 rfl<|WC.ret ?_
  replace he:=he.then hE
  exact fin1 rfl ⟨rfl,he.weaken fun k hk _=>hk⟩
def pW(code:Nat)(fs:List (V×V)):Prop:=∀w:World,Does TP 176 [.int .u64 (code:Int)] w fun r w'=>∃a b,r= .tuple #[.agg #[a,b],.bool true]∧aN (fun b=>w.heap.size≤b) w' code fs [a,b]∧Ext w w'
theorem ar.comp{v d:V}{code:Nat}{ks ks':List V}{fs:List (V×V)}(hKn:pW code fs)(hl:fs.length≤1000)(hlx:ks.length=fs.length)(hly:ks'.length=fs.length)(hf:∀i (h:i<fs.length),ar fs[i].1 fs[i].2 (aq ks i) (aq ks' i)):ar v d (.mk 21 0 [] ks 0 [uV code]) (.mk 21 0 [] ks' 0 [uV code]):=by
 intro A B C c1 c2 cx cy w hv hdv hx hy
 have q12:=cY hv.one hdv.one
 obtain⟨v0,v1,v2,v3,v4,v5,rfl⟩:=hv.six
 obtain⟨d0,d1,d2,d3,d4,d5,rfl⟩:=hdv.six
 replace hx:=hx.weakenW (B:=fun b=>b<w.heap.size) (fun b hb _=>hb)
 replace hy:=hy.weakenW (B:=fun b=>b<w.heap.size) (fun b hb _=>hb)
 obtain⟨pk,ck,pd,cd,rfl,_,_,hK,hD⟩:=hx.openV
 obtain⟨pk',ck',pd',cd',rfl,_,_,hK',hD'⟩:=hy.openV
 obtain⟨b1,o1,u1,rfl,_,hA1,l1,hR1⟩:=hD.kid (i:=0) (by simp)
 obtain⟨b2,o2,u2,rfl,_,hA2,l2,hR2⟩:=hD'.kid (i:=0) (by simp)
 replace hR1:=(show ag (fun b=>b<w.heap.size) w (.mk 5 code [] [] 0 []) u1 from hR1)
 replace hR2:=(show ag (fun b=>b<w.heap.size) w (.mk 5 code [] [] 0 []) u2 from hR2)
 obtain⟨p5,c5,p6,c6,rfl,_⟩:=hR1.openV
 obtain⟨p7,c7,p8,c8,rfl,_⟩:=hR2.openV
 have q1:=hR1.one
 have q2:=hR2.one
 refine do1 Tryz.func90 ?_
 have he:Evo (fun b=>b<w.heap.size) w w:=Evo.refl w
 refine jA 2 rfl ?_
 have hs1:=he.size
 refine bx rfl ?_
 rintro _ w1 ⟨rfl,hb1,e1⟩
 have nx1:=hb1.lt
 have ns1:=e1.size
 replace he:=he.then e1
 have hs2:=he.size
 have hx2b1:=hb1.lt
 refine bx rfl ?_
 rintro _ w2 ⟨rfl,hb2,e2⟩
 have nx2:=hb2.lt
 have ns2:=e2.size
 replace he:=he.then e2
 have hs3:=he.size
 replace hb1:=hb1.mono e2
 have hx3b1:=hb1.lt
 have hx3b2:=hb2.lt
 refine bx rfl ?_
 rintro _ w3 ⟨rfl,hb3,e3⟩
 have nx3:=hb3.lt
 have ns3:=e3.size
 refine jD 6 rfl ?_
 replace hb2:=hb2.mono e3
 refine ld rfl hb2 rfl<|jD 4 rfl<|jA 4 rfl<|ld rfl hb3 rfl<|jD 4 rfl ?_
 replace hK:=((hK.mono e1).mono e2).mono e3
 replace hK':=((hK'.mono e1).mono e2).mono e3
 replace hA1:=((hA1.mono e1).mono e2).mono e3
 replace hA2:=((hA2.mono e1).mono e2).mono e3
 replace hR1:=((hR1.mono e1).mono e2).mono e3
 replace hR2:=((hR2.mono e1).mono e2).mono e3
 replace hb1:=hb1.mono e3
 refine WC.seq<|WC.seq<|WC.regionD (tt [0,1,2,3,4,5,6,7,8,9,10,11,12,13,14,15,16,17,18,19,20,21,22,23,24,25,26,27,28]++ff [29]++tt [30]) (Ext _) mixed (by kernel_rfl) (Ext.drew _) ?_
 have nd1w3:w3.drew.heap.size=w3.heap.size:=rfl
 refine jE 1 rfl<|dl rfl hb2 rfl<|jE 1 rfl ?_
 refine WD.q rfl (fun _ hS=>r_cmp (r_eql rfl rfl) (beqT (rfl))) ?_
 refine jE 2 rfl<|bl rfl rfl rfl hb2 rfl<|jE 4 rfl<|bl rfl rfl rfl hb3 rfl<|jE 4 rfl<|bl rfl rfl rfl hb3 rfl<|jE 1 rfl ?_
 refine WD.qg rfl rfl rfl rfl (fun _ hS=>r_cmp (r_eql rfl rfl) (beqT (rfl))) ?_
 refine jE 3 rfl<|bl rfl rfl rfl hb2 rfl ?_
 refine WD.qg rfl rfl rfl rfl (fun _ hS=>r_idx Fo.h rfl rfl rfl (by first|omega|(simp;done)|(simp;omega))) ?_
 refine WD.qg rfl rfl rfl rfl (fun _ hS=>r_loadAgg Fo.h rfl hS hA1 (hn:=rfl)) ?_
 refine jE 1 rfl<|bl rfl rfl rfl hb3 rfl ?_
 refine WD.qg rfl rfl rfl rfl (fun _ hS=>r_idx Fo.h rfl rfl rfl (by first|omega|(simp;done)|(simp;omega))) ?_
 refine WD.qg rfl rfl rfl rfl (fun _ hS=>r_loadAgg Fo.h rfl hS hA2 (hn:=rfl)) ?_
 refine WD.lg rfl rfl rfl rfl rfl (l_do Fb.h rfl (cK (same_refl _) (by simp[ah,ad]) (hR1.mono (Ext.drew _)) (hR2.mono (Ext.drew _)))) ?_
 rintro v4 w4 ⟨rfl,e4⟩
 have ns4:=e4.size
 refine⟨((Evo.drew _).then e4),?_⟩
 refine jE 1 rfl<|WD.nil<|jA 4 rfl ?_
 replace hb2:=(hb2.mono (Ext.drew _)).mono e4
 refine ld rfl hb2 rfl<|ix rfl rfl rfl<|jC 1 rfl ?_
 replace hA1:=(hA1.mono (Ext.drew _)).mono e4
 refine WL.q rfl (r_load Fb.h rfl (Ext.refl _) (hA1.get (j:=1) rfl)) ?_
 refine cl rfl (hKn _) ?_
 rintro v5 w5 ⟨a,b,rfl,hC,e5⟩
 have q1C:=hC.one
 have ns5:=e5.size
 refine jC 3 rfl ?_
 replace he:=(((he.then e3).then (Ext.drew _)).then e4).then e5
 have hs6:=he.size
 replace hb1:=((hb1.mono (Ext.drew _)).mono e4).mono e5
 have hx6b1:=hb1.lt
 replace hb2:=hb2.mono e5
 have hx6b2:=hb2.lt
 replace hb3:=((hb3.mono (Ext.drew _)).mono e4).mono e5
 have hx6b3:=hb3.lt
 refine al ?_
 rintro _ w6 ⟨rfl,hb6,e6⟩
 have nx6:=hb6.lt
 have ns6:=e6.size
 refine WL.l0 (lsw rfl rfl hb6) ?_
 rintro _ w7 ⟨hb6,e7,hz7⟩
 have ns7:=e7.size
 refine jD 9 rfl<|la rfl hb6<|jC 1 rfl ?_
 replace hb2:=hb2.mono (e6.then e7)
 refine ld rfl hb2 rfl<|jC 1 rfl ?_
 replace hb3:=hb3.mono (e6.then e7)
 refine ld rfl hb3 rfl ?_
 replace hK:=(((hK.mono (Ext.drew _)).mono e4).mono e5).mono (e6.then e7)
 replace hK':=(((hK'.mono (Ext.drew _)).mono e4).mono e5).mono (e6.then e7)
 replace hC:=hC.mono (e6.then e7)
 refine cl rfl (ec hC hK hK' hl hlx hly hf) ?_
 rintro v8 w8 ⟨rfl,e8⟩
 have ns8:=e8.size
 refine jC 2 rfl<|WC.ret ?_
 replace he:=(he.then (e6.then e7)).then e8
 exact fin1 rfl ⟨rfl,he.weaken fun k hk _=>hk⟩
theorem rj{A B:Nat→Prop}{code:Nat}{fs:List (V×V)}{ys:List V}{cells cy:List Value}{w:World}(hC:aN A w code fs cells)(hy:ag B w (.mk 21 0 [] ys 0 [uV code]) cy)(hl:fs.length≤1000)(hly:ys.length=fs.length)(hf:∀i (h:i<fs.length),ar fs[i].1 fs[i].2 fs[i].1 (aq ys i)):
  Does TP 35 [.agg cells.toArray,.agg cy.toArray] w fun r w'=>r= .bool true∧Ext w w':=by
 replace hC:=hC.lowW (B:=fun b=>b<w.heap.size) fun b hb _=>hb
 replace hy:=hy.weakenW (B:=fun b=>b<w.heap.size) (fun b hb _=>hb)
 obtain⟨p,c,rfl⟩:=hC.open
 obtain⟨pk,ck,pd,cd,rfl,_,_,hK,hD⟩:=hy.openV
 obtain⟨b1,o1,u1,rfl,_,hA1,l1,hR1⟩:=hD.kid (i:=0) (by simp)
 replace hR1:=(show ag (fun b=>b<w.heap.size) w (.mk 5 code [] [] 0 []) u1 from hR1)
 obtain⟨p5,c5,p6,c6,rfl,_⟩:=hR1.openV
 refine do1 Tryz.func35 ?_
 have he:Evo (fun b=>b<w.heap.size) w w:=Evo.refl w
 refine jA 2 rfl ?_
 have hs1:=he.size
 refine bx rfl ?_
 rintro _ w1 ⟨rfl,hb1,e1⟩
 have nx1:=hb1.lt
 have ns1:=e1.size
 replace he:=he.then e1
 have hs2:=he.size
 have hx2b1:=hb1.lt
 refine bx rfl ?_
 rintro _ w2 ⟨rfl,hb2,e2⟩
 have nx2:=hb2.lt
 have ns2:=e2.size
 refine jC 2 rfl ?_
 replace hC:=(hC.mono e1).mono e2
 replace hK:=(hK.mono e1).mono e2
 replace hA1:=(hA1.mono e1).mono e2
 replace hb1:=hb1.mono e2
 refine WC.seq<|WC.seq<|WC.regionD (tt [0,1,2,3,4,5,6,7,8,9,10,11,12,13,14,15,16,17,18,19,20,21,22,23,24,25,26]) (Ext _) mixed (by kernel_rfl) (Ext.drew _) ?_
 have nd1w2:w2.drew.heap.size=w2.heap.size:=rfl
 refine jE 1 rfl<|dl rfl hb2 rfl<|jE 3 rfl<|bl rfl rfl rfl hb2 rfl<|jE 1 rfl ?_
 refine WD.qg rfl rfl rfl rfl (fun _ hS=>r_cmp (r_neq rfl rfl) (bneF (rfl))) ?_
 refine jE 3 rfl<|bl rfl rfl rfl hb2 rfl ?_
 refine WD.qg rfl rfl rfl rfl (fun _ hS=>r_idx Fo.h rfl rfl rfl (by first|omega|(simp;done)|(simp;omega))) ?_
 refine jE 1 rfl ?_
 refine WD.qg rfl rfl rfl rfl (fun _ hS=>r_load Fb.h rfl hS (hA1.get (j:=0) rfl)) ?_
 refine WD.qg rfl rfl rfl rfl (fun _ hS=>r_cmp (r_neq rfl rfl) (bneF (rfl))) ?_
 refine jE 3 rfl<|bl rfl rfl rfl hb2 rfl ?_
 refine WD.qg rfl rfl rfl rfl (fun _ hS=>r_idx Fo.h rfl rfl rfl (by first|omega|(simp;done)|(simp;omega))) ?_
 refine jE 1 rfl ?_
 refine WD.qg rfl rfl rfl rfl (fun _ hS=>r_load Fb.h rfl hS (hA1.get (j:=1) rfl)) ?_
 refine jE 1 rfl<|bl rfl rfl rfl hb1 rfl ?_
 refine WD.qg rfl rfl rfl rfl (fun _ hS=>r_cmp (r_neq rfl rfl) (bneF (rfl))) ?_
 refine jE 1 rfl<|WD.nil<|jA 2 rfl ?_
 replace hC:=hC.mono (Ext.drew _)
 replace hK:=hK.mono (Ext.drew _)
 replace hA1:=hA1.mono (Ext.drew _)
 replace hb1:=hb1.mono (Ext.drew _)
 replace hb2:=hb2.mono (Ext.drew _)
 refine WC.seq<|WC.regionD (tt [0,1,4,5]++ff [2]++tt [3]++ff [6]++tt [7]) (Ext _) mixed (by kernel_rfl) (Ext.drew _) ?_
 have nd2w2:w2.drew.drew.heap.size=w2.heap.size:=rfl
 have nd1w2:w2.drew.heap.size=w2.heap.size:=rfl
 refine WD.q rfl (fun _ hS=>r_loadAgg Fo.h rfl hS hb1.at (hn:=by first|rfl|assumption)) ?_
 refine WD.q rfl (fun _ hS=>r_loadAgg Fo.h rfl hS hb1.at (hn:=by first|rfl|assumption)) ?_
 refine jE 1 rfl<|dl rfl hb2 rfl ?_
 refine LL.cd rfl (dT (hC.mono (Ext.drew _)) hl) ?_
 rintro v3 w3 ⟨x0,x1,x2,x3,x4,x5,rfl,hR,e3⟩
 obtain⟨q2,q3,q4,q5,qxe,_,_,hZK,_⟩:=hR.openV
 simp only[List.cons.injEq,and_true]at qxe
 obtain⟨rfl,rfl,rfl,rfl,rfl,rfl⟩:=qxe
 have ns3:=e3.size
 refine⟨((Evo.drew _).then e3),?_⟩
 refine WD.q rfl (fun _ hS=>r_field1 Fo.h rfl rfl) ?_
 refine LL.cd rfl (ec ((hC.mono (Ext.drew _)).mono e3) hZK ((hK.mono (Ext.drew _)).mono e3) hl (by simp) hly (fun i h=>by have:=hf i h;rw[show aq (fs.map (·.1)) i=fs[i].1 from by rw[← az (by simpa using h)];simp];exact this)) ?_
 rintro v4 w4 ⟨rfl,e4⟩
 have ns4:=e4.size
 refine⟨(((Evo.drew _).then e3).then e4),?_⟩
 refine jE 1 rfl<|WD.nil<|WC.ret ?_
 replace he:=((((he.then e2).then (Ext.drew _)).then (Ext.drew _)).then e3).then e4
 exact fin1 rfl ⟨rfl,he.weaken fun k hk _=>hk⟩
end Go.Proofs.LL
