/- Contracts of functions and own laws. Conditions: those that each theorem states. -/
import Derived.Test.YtdgbmbjkbmpcbaaGreatDoorV49
set_option linter.all false
set_option autoImplicit true
set_option relaxedAutoImplicit true
set_option maxRecDepth 20000
namespace Go.Proofs.LL
open Go Go.Proofs Go.RowKit
set_option maxHeartbeats 4000000
attribute [local irreducible] ar WL WC cq WT WX
mutual
theorem jv:∀x:V,aE (bq x)≤aE x
 | .mk k n t ks o d=>by
  have h:=lw ks
  rw[bq]
  split
  ·rw[aE,aE,aj];omega
  ·split
   ·rw[aE,aE];omega
   ·split
    ·have:=iL (aM ks)
     rw[aE,aE];omega
    ·rw[aE,aE];omega
theorem lw:∀l:List V,aj (aM l)≤aj l
 |[]=>Nat.le_refl _
 |x::r=>by
  have h:=jv x
  have h2:=lw r
  rw[aM,aj,aj];omega
theorem iL:∀l:List V,aj (bS l)≤aj l
 |[]=>Nat.le_refl _
 |a::r=>by
  have h:=iL r
  rw[bS]
  split
  ·split
   ·simp[aj]
   ·rw[aj,aj,aj];omega
  ·rename_i b s e
   rw[e]at h
   simp only[aj]at h⊢;omega
end
def gP(x d:V):V:=if x.kind=0 then d else x
def aN(v d x y:V):Prop:=∀(A B C:Nat→Prop) (c1 c2 cx cy:List Value) (w:World),aC A w v c1→aC A w d c2→aC B w x cx→aC C w y cy→
 ah TP 90 [.agg (c1++c2).toArray,.agg cx.toArray,.agg cy.toArray] w fun r w'=>r= .bool true∧ay w w'
theorem fz{cx:List Value}(hv:aE x≤1000000000)(hx:aC A w x cx):
  ah TP 178 [.agg cx.toArray] w fun r w'=>∃a b c d e f,r= .agg #[a,b,c,d,e,f]∧aC (fun _=>True) w' (bq x) [a,b,c,d,e,f]∧ay w w':=
 (zZ x A cx w hv hx).imp fun r w' ⟨a,b,c,d,e,f,h1,h2,h3⟩=>⟨a,b,c,d,e,f,h1,h2.any,h3⟩
theorem k6{cx:List Value}(hN:ND x)(hv:aE x≤1000000000)(hv2:aE y≤1000000000)(hL:bG x y)(hx:aC A w x cx)(hy:aC B w y cy):
  ah TP 177 [.agg cx.toArray,.agg cy.toArray] w fun r w'=>r= .bool true∧ay w w':=
 (zm x A B y cx cy w hN hv hv2 hx hy).imp fun r w' ⟨b,h1,h2,h3⟩=>⟨by rw[h1,h2 hL],h3⟩
theorem aN.plain(hd:(gP x d).desc.length≠1)(hN:ND (bq (gP x d)))(hL:bG (bq (gP x d)) (bq (gP y d)))(n1:aE (gP x d)≤1000000000)(n2:aE (gP y d)≤1000000000):aN v d x y:=by
 intro A B C c1 c2 cx cy w hv hdv hx hy
 replace hv:=hv.weakenW (B:=fun b=>b<w.heap.size) (fun b hb _=>hb)
 replace hdv:=hdv.weakenW (B:=fun b=>b<w.heap.size) (fun b hb _=>hb)
 replace hx:=hx.weakenW (B:=fun b=>b<w.heap.size) (fun b hb _=>hb)
 replace hy:=hy.weakenW (B:=fun b=>b<w.heap.size) (fun b hb _=>hb)
 have q12:=eH hv.one hdv.one
 have qu1:=jv (gP x d)
 have qu2:=jv (gP y d)
 obtain⟨v0,v1,v2,v3,v4,v5,rfl⟩:=hv.six
 obtain⟨kd,nd,td,ksd,od,dd⟩:=d
 obtain⟨k,n,t,ks,o,dx⟩:=x
 obtain⟨k',n',t',ks',o',dy⟩:=y
 obtain⟨p1,e1,p2,e2,rfl,_⟩:=hdv.openV
 obtain⟨p3,e3,p4,e4,rfl,_⟩:=hx.openV
 obtain⟨p5,e5,p6,e6,rfl,_⟩:=hy.openV
 rcases Decidable.em (k=0)with qk|qk
 ·have ex:gP (.mk k n t ks o dx) (.mk kd nd td ksd od dd)= .mk kd nd td ksd od dd:=if_pos qk
  rw[ex]at hd hN hL n1 qu1
  simp only[V.desc]at hd
  rcases Decidable.em (k'=0)with qk'|qk'
  ·have ey:gP (.mk k' n' t' ks' o' dy) (.mk kd nd td ksd od dd)= .mk kd nd td ksd od dd:=if_pos qk'
   rw[ey]at hL n2 qu2
   refine aR Tryz.func90 ?_
   have he:=Hi w
   refine jA 2 rfl ?_
   have hs1:=he.s
   refine Hb rfl fun w1 hb1 e1=>?_
   have nx1:=hb1.lt
   have ns1:=e1.s
   replace he:=he.t e1
   have hs2:=he.s
   have hx2b1:=hb1.lt
   refine Hb rfl fun w2 hb2 e2=>?_
   have nx2:=hb2.lt
   have ns2:=e2.s
   replace he:=he.t e2
   have hs3:=he.s
   replace hb1:=hb1.m e2
   have hx3b1:=hb1.lt
   have hx3b2:=hb2.lt
   refine Hb rfl fun w3 hb3 e3=>?_
   have nx3:=hb3.lt
   have ns3:=e3.s
   refine jD 6 rfl ?_
   replace hb2:=hb2.m e3
   refine ld rfl hb2 rfl<|Hq (ae (ak rfl rfl) (br (qk)))<|jD 4 rfl ?_
   replace hb1:=hb1.m e3
   refine Hq (ad Fo.h rfl Xr (At.suf (c:=[_,_,_,_,_,_]) hb1.at) (hn:=rfl))<|Ho rfl rfl hb2 fun w4 hb2 e4 hz4=>?_
   have ns4:=e4.s
   refine jD 5 rfl ?_
   replace hb3:=hb3.m e4
   refine ld rfl hb3 rfl<|Hq (ae (ak rfl rfl) (br (qk')))<|jD 4 rfl ?_
   replace hb1:=hb1.m e4
   refine Hq (ad Fo.h rfl Xr (At.suf (c:=[_,_,_,_,_,_]) hb1.at) (hn:=rfl))<|Ho rfl rfl hb3 fun w5 hb3 e5 hz5=>?_
   have ns5:=e5.s
   refine WL.nil ?_
   replace hdv:=((((hdv.m e1).m e2).m e3).m e4).m e5
   replace hx:=((((hx.m e1).m e2).m e3).m e4).m e5
   replace hy:=((((hy.m e1).m e2).m e3).m e4).m e5
   replace hb1:=hb1.m e5
   replace hb2:=hb2.m e5
   refine WC.seq<|WC.seq<|WC.regionD (tt [0,1,2,3,4,5,6,7,8,9,10,11,12,13,14,15,16,17,18,19,20,21,22,23,24,25,26,27,28]++ff [29]++tt [30]) (ay _) mixed (by kernel_rfl) Xd ?_
   have nd1w5:w5.drew.heap.size=w5.heap.size:=rfl
   refine jE 1 rfl<|dl rfl hb2 rfl<|jE 1 rfl<|He (fun _ hS=>ae (ak rfl rfl) (bk (by(omega))))<|jE 25 rfl<|WD.lsk rfl (Vd) rfl rfl rfl rfl rfl<|jE 1 rfl<|WD.nil<|jA 2 rfl ?_
   replace hdv:=hdv.m Xd
   replace hx:=hx.m Xd
   replace hy:=hy.m Xd
   replace hb1:=hb1.m Xd
   replace hb2:=hb2.m Xd
   replace hb3:=hb3.m Xd
   refine WC.seq<|WC.regionD (tt [0,2]++ff [1,3,4]++tt [5]) (ay _) mixed (by kernel_rfl) Xd ?_
   have nd2w5:w5.drew.drew.heap.size=w5.heap.size:=rfl
   have nd1w5:w5.drew.heap.size=w5.heap.size:=rfl
   refine He (fun _ hS=>ad Fo.h rfl hS hb2.at (hn:=by first|rfl|assumption))<|He (fun _ hS=>ad Fo.h rfl hS hb3.at (hn:=by first|rfl|assumption))<|cd rfl (fz n1 (hdv.m Xd)) ?_
   rintro v6 w6 ⟨x0,x1,x2,x3,x4,x5,rfl,hU,e6⟩
   have ns6:=e6.s
   refine⟨(Vd.t e6),?_⟩
   refine cd rfl (fz n2 ((hdv.m Xd).m e6)) ?_
   rintro v7 w7 ⟨y0,y1,y2,y3,y4,y5,rfl,hU2,e7⟩
   have ns7:=e7.s
   refine⟨((Vd.t e6).t e7),?_⟩
   refine cd rfl (k6 hN (by omega) (by omega) hL (hU.m e7) hU2) ?_
   rintro v8 w8 ⟨rfl,e8⟩
   have:=e8.s
   refine⟨(((Vd.t e6).t e7).t e8),?_⟩
   refine jE 1 rfl<|WD.nil<|WC.ret ?_
   replace he:=(((((((he.t e3).t e4).t e5).t Xd).t Xd).t e6).t e7).t e8
   exact aw rfl ⟨rfl,he.k fun k hk _=>hk⟩
  ·have ey:gP (.mk k' n' t' ks' o' dy) (.mk kd nd td ksd od dd)= .mk k' n' t' ks' o' dy:=if_neg qk'
   rw[ey]at hL n2 qu2
   refine aR Tryz.func90 ?_
   have he:=Hi w
   refine jA 2 rfl ?_
   have hs1:=he.s
   refine Hb rfl fun w1 hb1 e1=>?_
   have nx1:=hb1.lt
   have ns1:=e1.s
   replace he:=he.t e1
   have hs2:=he.s
   have hx2b1:=hb1.lt
   refine Hb rfl fun w2 hb2 e2=>?_
   have nx2:=hb2.lt
   have ns2:=e2.s
   replace he:=he.t e2
   have hs3:=he.s
   replace hb1:=hb1.m e2
   have hx3b1:=hb1.lt
   have hx3b2:=hb2.lt
   refine Hb rfl fun w3 hb3 e3=>?_
   have nx3:=hb3.lt
   have ns3:=e3.s
   refine jD 6 rfl ?_
   replace hb2:=hb2.m e3
   refine ld rfl hb2 rfl<|Hq (ae (ak rfl rfl) (br (qk)))<|jD 4 rfl ?_
   replace hb1:=hb1.m e3
   refine Hq (ad Fo.h rfl Xr (At.suf (c:=[_,_,_,_,_,_]) hb1.at) (hn:=rfl))<|Ho rfl rfl hb2 fun w4 hb2 e4 hz4=>?_
   have ns4:=e4.s
   refine jD 5 rfl ?_
   replace hb3:=hb3.m e4
   refine ld rfl hb3 rfl<|Hq (ae (ak rfl rfl) (bk (qk')))<|jD 3 rfl ?_
   replace hdv:=(((hdv.m e1).m e2).m e3).m e4
   replace hx:=(((hx.m e1).m e2).m e3).m e4
   replace hy:=(((hy.m e1).m e2).m e3).m e4
   replace hb1:=hb1.m e4
   refine WC.seq<|WC.seq<|WC.regionD (tt [0,1,2,3,4,5,6,7,8,9,10,11,12,13,14,15,16,17,18,19,20,21,22,23,24,25,26,27,28]++ff [29]++tt [30]) (ay _) mixed (by kernel_rfl) Xd ?_
   have nd1w4:w4.drew.heap.size=w4.heap.size:=rfl
   refine jE 1 rfl<|dl rfl hb2 rfl<|jE 1 rfl<|He (fun _ hS=>ae (ak rfl rfl) (bk (by(omega))))<|jE 25 rfl<|WD.lsk rfl (Vd) rfl rfl rfl rfl rfl<|jE 1 rfl<|WD.nil<|jA 2 rfl ?_
   replace hdv:=hdv.m Xd
   replace hx:=hx.m Xd
   replace hy:=hy.m Xd
   replace hb1:=hb1.m Xd
   replace hb2:=hb2.m Xd
   replace hb3:=hb3.m Xd
   refine WC.seq<|WC.regionD (tt [0,2]++ff [1,3,4]++tt [5]) (ay _) mixed (by kernel_rfl) Xd ?_
   have nd2w4:w4.drew.drew.heap.size=w4.heap.size:=rfl
   have nd1w4:w4.drew.heap.size=w4.heap.size:=rfl
   refine He (fun _ hS=>ad Fo.h rfl hS hb2.at (hn:=by first|rfl|assumption))<|He (fun _ hS=>ad Fo.h rfl hS hb3.at (hn:=by first|rfl|assumption))<|cd rfl (fz n1 (hdv.m Xd)) ?_
   rintro v5 w5 ⟨x0,x1,x2,x3,x4,x5,rfl,hU,e5⟩
   have ns5:=e5.s
   refine⟨(Vd.t e5),?_⟩
   refine cd rfl (fz n2 ((hy.m Xd).m e5)) ?_
   rintro v6 w6 ⟨y0,y1,y2,y3,y4,y5,rfl,hU2,e6⟩
   have ns6:=e6.s
   refine⟨((Vd.t e5).t e6),?_⟩
   refine cd rfl (k6 hN (by omega) (by omega) hL (hU.m e6) hU2) ?_
   rintro v7 w7 ⟨rfl,e7⟩
   have ns7:=e7.s
   refine⟨(((Vd.t e5).t e6).t e7),?_⟩
   refine jE 1 rfl<|WD.nil<|WC.ret ?_
   replace he:=((((((he.t e3).t e4).t Xd).t Xd).t e5).t e6).t e7
   exact aw rfl ⟨rfl,he.k fun k hk _=>hk⟩
 ·have ex:gP (.mk k n t ks o dx) (.mk kd nd td ksd od dd)= .mk k n t ks o dx:=if_neg qk
  rw[ex]at hd hN hL n1 qu1
  simp only[V.desc]at hd
  rcases Decidable.em (k'=0)with qk'|qk'
  ·have ey:gP (.mk k' n' t' ks' o' dy) (.mk kd nd td ksd od dd)= .mk kd nd td ksd od dd:=if_pos qk'
   rw[ey]at hL n2 qu2
   refine aR Tryz.func90 ?_
   have he:=Hi w
   refine jA 2 rfl ?_
   have hs1:=he.s
   refine Hb rfl fun w1 hb1 e1=>?_
   have nx1:=hb1.lt
   have ns1:=e1.s
   replace he:=he.t e1
   have hs2:=he.s
   have hx2b1:=hb1.lt
   refine Hb rfl fun w2 hb2 e2=>?_
   have nx2:=hb2.lt
   have ns2:=e2.s
   replace he:=he.t e2
   have hs3:=he.s
   replace hb1:=hb1.m e2
   have hx3b1:=hb1.lt
   have hx3b2:=hb2.lt
   refine Hb rfl fun w3 hb3 e3=>?_
   have nx3:=hb3.lt
   have ns3:=e3.s
   refine jD 6 rfl ?_
   replace hb2:=hb2.m e3
   refine ld rfl hb2 rfl<|Hq (ae (ak rfl rfl) (bk (qk)))<|jD 3 rfl<|jA 4 rfl<|ld rfl hb3 rfl<|Hq (ae (ak rfl rfl) (br (qk')))<|jD 4 rfl ?_
   replace hb1:=hb1.m e3
   refine Hq (ad Fo.h rfl Xr (At.suf (c:=[_,_,_,_,_,_]) hb1.at) (hn:=rfl))<|Ho rfl rfl hb3 fun w4 hb3 e4 hz4=>?_
   have ns4:=e4.s
   refine WL.nil ?_
   replace hdv:=((hdv.m e1).m e2).m (e3.t e4)
   replace hx:=((hx.m e1).m e2).m (e3.t e4)
   replace hy:=((hy.m e1).m e2).m (e3.t e4)
   replace hb1:=hb1.m e4
   replace hb2:=hb2.m e4
   refine WC.seq<|WC.seq<|WC.regionD (tt [0,1,2,3,4,5,6,7,8,9,10,11,12,13,14,15,16,17,18,19,20,21,22,23,24,25,26,27,28]++ff [29]++tt [30]) (ay _) mixed (by kernel_rfl) Xd ?_
   have nd1w4:w4.drew.heap.size=w4.heap.size:=rfl
   refine jE 1 rfl<|dl rfl hb2 rfl<|jE 1 rfl<|He (fun _ hS=>ae (ak rfl rfl) (bk (by(omega))))<|jE 25 rfl<|WD.lsk rfl (Vd) rfl rfl rfl rfl rfl<|jE 1 rfl<|WD.nil<|jA 2 rfl ?_
   replace hdv:=hdv.m Xd
   replace hx:=hx.m Xd
   replace hy:=hy.m Xd
   replace hb1:=hb1.m Xd
   replace hb2:=hb2.m Xd
   replace hb3:=hb3.m Xd
   refine WC.seq<|WC.regionD (tt [0,2]++ff [1,3,4]++tt [5]) (ay _) mixed (by kernel_rfl) Xd ?_
   have nd2w4:w4.drew.drew.heap.size=w4.heap.size:=rfl
   have nd1w4:w4.drew.heap.size=w4.heap.size:=rfl
   refine He (fun _ hS=>ad Fo.h rfl hS hb2.at (hn:=by first|rfl|assumption))<|He (fun _ hS=>ad Fo.h rfl hS hb3.at (hn:=by first|rfl|assumption))<|cd rfl (fz n1 (hx.m Xd)) ?_
   rintro v5 w5 ⟨x0,x1,x2,x3,x4,x5,rfl,hU,e5⟩
   have ns5:=e5.s
   refine⟨(Vd.t e5),?_⟩
   refine cd rfl (fz n2 ((hdv.m Xd).m e5)) ?_
   rintro v6 w6 ⟨y0,y1,y2,y3,y4,y5,rfl,hU2,e6⟩
   have ns6:=e6.s
   refine⟨((Vd.t e5).t e6),?_⟩
   refine cd rfl (k6 hN (by omega) (by omega) hL (hU.m e6) hU2) ?_
   rintro v7 w7 ⟨rfl,e7⟩
   have ns7:=e7.s
   refine⟨(((Vd.t e5).t e6).t e7),?_⟩
   refine jE 1 rfl<|WD.nil<|WC.ret ?_
   replace he:=(((((he.t (e3.t e4)).t Xd).t Xd).t e5).t e6).t e7
   exact aw rfl ⟨rfl,he.k fun k hk _=>hk⟩
  ·have ey:gP (.mk k' n' t' ks' o' dy) (.mk kd nd td ksd od dd)= .mk k' n' t' ks' o' dy:=if_neg qk'
   rw[ey]at hL n2 qu2
   refine aR Tryz.func90 ?_
   have he:=Hi w
   refine jA 2 rfl ?_
   have hs1:=he.s
   refine Hb rfl fun w1 hb1 e1=>?_
   have nx1:=hb1.lt
   have ns1:=e1.s
   replace he:=he.t e1
   have hs2:=he.s
   have hx2b1:=hb1.lt
   refine Hb rfl fun w2 hb2 e2=>?_
   have nx2:=hb2.lt
   have ns2:=e2.s
   replace he:=he.t e2
   have hs3:=he.s
   replace hb1:=hb1.m e2
   have hx3b1:=hb1.lt
   have hx3b2:=hb2.lt
   refine Hb rfl fun w3 hb3 e3=>?_
   have nx3:=hb3.lt
   have ns3:=e3.s
   refine jD 6 rfl ?_
   replace hb2:=hb2.m e3
   refine ld rfl hb2 rfl<|Hq (ae (ak rfl rfl) (bk (qk)))<|jD 3 rfl<|jA 4 rfl<|ld rfl hb3 rfl<|Hq (ae (ak rfl rfl) (bk (qk')))<|jD 3 rfl ?_
   replace hdv:=((hdv.m e1).m e2).m e3
   replace hx:=((hx.m e1).m e2).m e3
   replace hy:=((hy.m e1).m e2).m e3
   replace hb1:=hb1.m e3
   refine WC.seq<|WC.seq<|WC.regionD (tt [0,1,2,3,4,5,6,7,8,9,10,11,12,13,14,15,16,17,18,19,20,21,22,23,24,25,26,27,28]++ff [29]++tt [30]) (ay _) mixed (by kernel_rfl) Xd ?_
   have nd1w3:w3.drew.heap.size=w3.heap.size:=rfl
   refine jE 1 rfl<|dl rfl hb2 rfl<|jE 1 rfl<|He (fun _ hS=>ae (ak rfl rfl) (bk (by(omega))))<|jE 25 rfl<|WD.lsk rfl (Vd) rfl rfl rfl rfl rfl<|jE 1 rfl<|WD.nil<|jA 2 rfl ?_
   replace hdv:=hdv.m Xd
   replace hx:=hx.m Xd
   replace hy:=hy.m Xd
   replace hb1:=hb1.m Xd
   replace hb2:=hb2.m Xd
   replace hb3:=hb3.m Xd
   refine WC.seq<|WC.regionD (tt [0,2]++ff [1,3,4]++tt [5]) (ay _) mixed (by kernel_rfl) Xd ?_
   have nd2w3:w3.drew.drew.heap.size=w3.heap.size:=rfl
   have nd1w3:w3.drew.heap.size=w3.heap.size:=rfl
   refine He (fun _ hS=>ad Fo.h rfl hS hb2.at (hn:=by first|rfl|assumption))<|He (fun _ hS=>ad Fo.h rfl hS hb3.at (hn:=by first|rfl|assumption))<|cd rfl (fz n1 (hx.m Xd)) ?_
   rintro v4 w4 ⟨x0,x1,x2,x3,x4,x5,rfl,hU,e4⟩
   have ns4:=e4.s
   refine⟨(Vd.t e4),?_⟩
   refine cd rfl (fz n2 ((hy.m Xd).m e4)) ?_
   rintro v5 w5 ⟨y0,y1,y2,y3,y4,y5,rfl,hU2,e5⟩
   have ns5:=e5.s
   refine⟨((Vd.t e4).t e5),?_⟩
   refine cd rfl (k6 hN (by omega) (by omega) hL (hU.m e5) hU2) ?_
   rintro v6 w6 ⟨rfl,e6⟩
   have ns6:=e6.s
   refine⟨(((Vd.t e4).t e5).t e6),?_⟩
   refine jE 1 rfl<|WD.nil<|WC.ret ?_
   replace he:=(((((he.t e3).t Xd).t Xd).t e4).t e5).t e6
   exact aw rfl ⟨rfl,he.k fun k hk _=>hk⟩
theorem mC{xs ys:List V}(hC:cW A w code fs cells)(hx:cM B w xs.length (.slice pa xs.length ca) (ag B w xs))(hy:cM C w ys.length (.slice pb ys.length cb) (ag C w ys))(hl:fs.length≤1000)(hlx:xs.length=fs.length)(hly:ys.length=fs.length)(hf:∀i (h:i<fs.length),aN fs[i].1 fs[i].2 (bA xs i) (bA ys i)):
  ah TP 63 [.agg cells.toArray,.slice pa xs.length ca,.slice pb ys.length cb] w fun r w'=>r= .bool true∧ay w w':=by
 replace hC:=hC.lowW (B:=fun b=>b<w.heap.size) fun b hb _=>hb
 replace hx:=hx.weakW (B:=fun b=>b<w.heap.size) fun b hb _=>hb
 replace hy:=hy.weakW (B:=fun b=>b<w.heap.size) fun b hb _=>hb
 obtain⟨p,c,rfl⟩:=hC.open
 refine aR Tryz.func63 ?_
 have he:=Hi w
 refine jA 2 rfl ?_
 have:=he.s
 refine LL.bx rfl ?_
 rintro _ w1 ⟨rfl,hb1,e1⟩
 have:=hb1.lt
 have:=e1.s
 refine jD 8 rfl<|ld rfl hb1 rfl<|jC 1 rfl<|Hq (ae (aS rfl rfl) (decide_eq_false (by(omega))))<|jC 4 rfl<|lg rfl rfl rfl hb1 rfl<|jC 1 rfl<|Hg rfl rfl (ae (aS rfl rfl) (decide_eq_false (by(omega))))<|jD 4 rfl<|jA 4 rfl<|ld rfl hb1 rfl<|jD 4 rfl ?_
 replace hC:=hC.m e1
 replace hx:=hx.m e1
 replace hy:=hy.m e1
 replace he:=he.t e1
 refine WC.loop2 (ι:=Nat) [(1,_),(2,_),(6,_),(26,_),(27,_)] (fun i=>[(28,.int .i64 (i:Int))]) (fun i wi=>i≤fs.length∧ay w1 wi) (fun i=>fs.length-i) 0 sb sb (⟨Nat.zero_le _,ay.refl _⟩) ?_
 intro i wi1 hh;obtain⟨ni,hE⟩:=hh
 have:=hE.s
 rcases Nat.lt_or_ge i fs.length with qi|qi
 replace hC:=hC.m hE
 ·obtain⟨b,o,a0,a1,a2,a3,a4,a5,b0,b1,b2,b3,b4,b5,rfl,qA,hAt,hR1,hR2,qc⟩:=hC.idx qi
  replace hx:=hx.m hE
  obtain⟨bx,ox,cx,rfl,_,hA1,l1,hRx⟩:=hx.kid (i:=i) (by omega)
  replace hy:=hy.m hE
  obtain⟨by',oy,cy,rfl,_,hA2,l2,hRy⟩:=hy.kid (i:=i) (by omega)
  obtain⟨x0,x1,x2,x3,x4,x5,rfl⟩:=hRx.six
  obtain⟨y0,y1,y2,y3,y4,y5,rfl⟩:=hRy.six
  have q12:[a0,a1,a2,a3,a4,a5,b0,b1,b2,b3,b4,b5].all (fun v=>v.oneCell')=true:=eH hR1.one hR2.one
  have q1x:=hRx.one
  have q1y:=hRy.one
  refine jA 2 rfl<|lT rfl rfl<|jD 9 rfl<|ix rfl rfl rfl<|Hq (ad Fo.h rfl Xr hAt (hn:=rfl)) ?_
  replace he:=he.t hE
  have:=he.s
  replace hb1:=hb1.m hE
  have:=hb1.lt
  refine Ha fun w2 hb2 e2=>?_
  have:=hb2.lt
  have:=e2.s
  refine jC 1 rfl<|Ho rfl rfl hb2 fun w3 hb2 e3 hz3=>?_
  have:=e3.s
  refine jD 3 rfl<|Hq (az (cs:=[_,_,_,_,_,_]) Fo.h rfl rfl)<|Hq (az (cs:=[_,_,_,_,_,_]) Fo.h rfl rfl) ?_
  replace he:=he.t (e2.t e3)
  have:=he.s
  replace hb1:=hb1.m (e2.t e3)
  have:=hb1.lt
  have:=hb2.lt
  refine Ha fun w4 hb4 e4=>?_
  have:=hb4.lt
  have:=e4.s
  replace he:=he.t e4
  have:=he.s
  replace hb1:=hb1.m e4
  have:=hb1.lt
  replace hb2:=hb2.m e4
  have:=hb2.lt
  have:=hb4.lt
  refine Ha fun w5 hb5 e5=>?_
  have:=hb5.lt
  have:=e5.s
  replace hb4:=hb4.m e5
  refine Ho rfl rfl hb4 fun w6 hb4 e6 hz6=>?_
  have:=e6.s
  replace hb5:=hb5.m e6
  refine Ho rfl rfl hb5 fun w7 hb5 e7 hz7=>?_
  have:=e7.s
  refine jD 7 rfl<|lT rfl rfl<|jD 5 rfl<|ix rfl rfl rfl ?_
  replace hA1:=((((hA1.m (e2.t e3)).m e4).m e5).m e6).m e7
  refine Hq (ad Fo.h rfl Xr hA1 (hn:=rfl)) ?_
  replace hb4:=hb4.m e7
  refine Ho rfl rfl hb4 fun w8 hb4 e8 hz8=>?_
  have:=e8.s
  refine jD 7 rfl<|lT rfl rfl<|jD 5 rfl<|ix rfl rfl rfl ?_
  replace hA2:=(((((hA2.m (e2.t e3)).m e4).m e5).m e6).m e7).m e8
  refine Hq (ad Fo.h rfl Xr hA2 (hn:=rfl)) ?_
  replace hb5:=hb5.m e8
  refine Ho rfl rfl hb5 fun w9 hb5 e9 hz9=>?_
  have:=e9.s
  refine jD 3 rfl ?_
  replace hb2:=((((hb2.m e5).m e6).m e7).m e8).m e9
  refine la rfl hb2 ?_
  replace hb4:=hb4.m e9
  refine la rfl hb4<|la rfl hb5 ?_
  replace hR1:=((((((hR1.m (e2.t e3)).m e4).m e5).m e6).m e7).m e8).m e9
  replace hR2:=((((((hR2.m (e2.t e3)).m e4).m e5).m e6).m e7).m e8).m e9
  replace hRx:=((((((hRx.m (e2.t e3)).m e4).m e5).m e6).m e7).m e8).m e9
  replace hRy:=((((((hRy.m (e2.t e3)).m e4).m e5).m e6).m e7).m e8).m e9
  refine Hl rfl (hf i qi _ _ _ [a0,a1,a2,a3,a4,a5] [b0,b1,b2,b3,b4,b5] [x0,x1,x2,x3,x4,x5] [y0,y1,y2,y3,y4,y5] _ hR1 hR2 hRx hRy) fun w10 e10=>?_
  have:=e10.s
  refine jD 4 rfl<|jA 1 rfl<|ai rfl rfl rfl<|jC 2 rfl ?_
  exact⟨i+1,sb,sb,⟨qi,(((((((((hE.t (e2.t e3)).t e4).t e5).t e6).t e7).t e8).t e9).t e10))⟩,by omega⟩
 ·refine jA 2 rfl<|lF rfl rfl<|jD 3 rfl<|WC.exit<|jA 4 rfl<|WC.ret ?_
  replace he:=he.t hE
  exact aw rfl ⟨rfl,he.k fun k hk _=>hk⟩
theorem tR:ah TP 176 [.int .u64 29] w fun r w'=>∃a b,r= .tuple #[.agg #[a,b],.bool true]∧cW (fun b=>w.heap.size≤b) w' 29 (lJ [] [] []) [a,b]∧ay w w':=by
 refine co Tryz.func176 ?_
 have he:=Hi w
 refine jA 2 rfl ?_
 have:=he.s
 refine Ha fun w1 hb1 e1=>?_
 have:=hb1.lt
 have:=e1.s
 refine jD 16 rfl<|Hq (az (cs:=[_,_,_]) Fo.h rfl rfl)<|cl rfl (m5 (A:=fun b=>b<0) (i:=[]) cM.nil) ?_
 rintro v2 w2 ⟨a,b,rfl,hC,e2⟩
 have q1:=hC.one
 have:=e2.s
 replace hb1:=hb1.m e2
 refine Ho rfl rfl hb1 fun w3 hb1 e3 hz3=>?_
 have:=e3.s
 refine jC 2 rfl<|WC.ret ?_
 replace hC:=hC.m e3
 replace he:=((he.t e1).t e2).t e3
 exact cw rfl hb1 eT rfl ⟨_,_,rfl,hC.low (fun b h=>by rcases h with h|h;exact absurd h.1 (Nat.not_lt_zero b);exact(by show w.heap.size≤b;omega)),he.k fun k hk _=>hk⟩
def CX(code:Nat)(fs:List (V×V)):Prop:=∀w:World,ah TP 176 [.int .u64 (code:Int)] w fun r w'=>∃a b,r= .tuple #[.agg #[a,b],.bool true]∧cW (fun b=>w.heap.size≤b) w' code fs [a,b]∧ay w w'
theorem aN.comp{ks ks':List V}(hKn:CX code fs)(hl:fs.length≤1000)(hlx:ks.length=fs.length)(hly:ks'.length=fs.length)(hf:∀i (h:i<fs.length),aN fs[i].1 fs[i].2 (bA ks i) (bA ks' i)):aN v d (.mk 21 0 [] ks 0 [uV code]) (.mk 21 0 [] ks' 0 [uV code]):=by
 intro A B C c1 c2 cx cy w hv hdv hx hy
 have q12:=eH hv.one hdv.one
 obtain⟨v0,v1,v2,v3,v4,v5,rfl⟩:=hv.six
 obtain⟨d0,d1,d2,d3,d4,d5,rfl⟩:=hdv.six
 replace hx:=hx.weakenW (B:=fun b=>b<w.heap.size) (fun b hb _=>hb)
 replace hy:=hy.weakenW (B:=fun b=>b<w.heap.size) (fun b hb _=>hb)
 obtain⟨pk,ck,pd,cd,rfl,_,_,hK,hD⟩:=hx.openV
 obtain⟨pk',ck',pd',cd',rfl,_,_,hK',hD'⟩:=hy.openV
 obtain⟨b1,o1,u1,rfl,_,hA1,l1,hR1⟩:=hD.kid (i:=0) (by simp)
 obtain⟨b2,o2,u2,rfl,_,hA2,l2,hR2⟩:=hD'.kid (i:=0) (by simp)
 replace hR1:=(show aC (fun b=>b<w.heap.size) w (.mk 5 code [] [] 0 []) u1 from hR1)
 replace hR2:=(show aC (fun b=>b<w.heap.size) w (.mk 5 code [] [] 0 []) u2 from hR2)
 obtain⟨p5,c5,p6,c6,rfl,_⟩:=hR1.openV
 obtain⟨p7,c7,p8,c8,rfl,_⟩:=hR2.openV
 have q1:=hR1.one
 have q2:=hR2.one
 refine aR Tryz.func90 ?_
 have he:=Hi w
 refine jA 2 rfl ?_
 have:=he.s
 refine Hb rfl fun w1 hb1 e1=>?_
 have:=hb1.lt
 have:=e1.s
 replace he:=he.t e1
 have:=he.s
 have:=hb1.lt
 refine Hb rfl fun w2 hb2 e2=>?_
 have:=hb2.lt
 have:=e2.s
 replace he:=he.t e2
 have:=he.s
 replace hb1:=hb1.m e2
 have:=hb1.lt
 have:=hb2.lt
 refine Hb rfl fun w3 hb3 e3=>?_
 have:=hb3.lt
 have:=e3.s
 refine jD 6 rfl ?_
 replace hb2:=hb2.m e3
 refine ld rfl hb2 rfl<|jD 4 rfl<|jA 4 rfl<|ld rfl hb3 rfl<|jD 4 rfl ?_
 replace hK:=((hK.m e1).m e2).m e3
 replace hK':=((hK'.m e1).m e2).m e3
 replace hA1:=((hA1.m e1).m e2).m e3
 replace hA2:=((hA2.m e1).m e2).m e3
 replace hR1:=((hR1.m e1).m e2).m e3
 replace hR2:=((hR2.m e1).m e2).m e3
 replace hb1:=hb1.m e3
 refine WC.seq<|WC.seq<|WC.regionD (tt [0,1,2,3,4,5,6,7,8,9,10,11,12,13,14,15,16,17,18,19,20,21,22,23,24,25,26,27,28]++ff [29]++tt [30]) (ay _) mixed (by kernel_rfl) Xd ?_
 have nd1w3:w3.drew.heap.size=w3.heap.size:=rfl
 refine jE 1 rfl<|dl rfl hb2 rfl<|jE 1 rfl<|He (fun _ hS=>ae (ak rfl rfl) (br (rfl)))<|jE 2 rfl<|bl rfl rfl rfl hb2 rfl<|jE 4 rfl<|bl rfl rfl rfl hb3 rfl<|jE 4 rfl<|bl rfl rfl rfl hb3 rfl<|jE 1 rfl<|Hf rfl rfl (fun _ hS=>ae (ak rfl rfl) (br (rfl)))<|jE 3 rfl<|bl rfl rfl rfl hb2 rfl<|Hf rfl rfl (fun _ hS=>bd Fo.h rfl rfl rfl)<|Hf rfl rfl (fun _ hS=>ad Fo.h rfl hS hA1 (hn:=rfl))<|jE 1 rfl<|bl rfl rfl rfl hb3 rfl<|Hf rfl rfl (fun _ hS=>bd Fo.h rfl rfl rfl)<|Hf rfl rfl (fun _ hS=>ad Fo.h rfl hS hA2 (hn:=rfl))<|WD.lg rfl rfl rfl rfl rfl (cD Fb.h rfl (i6 (fp _) (by simp[aE,aj]) (hR1.m Xd) (hR2.m Xd))) ?_
 rintro v4 w4 ⟨rfl,e4⟩
 have:=e4.s
 refine⟨(Vd.t e4),?_⟩
 refine jE 1 rfl<|WD.nil<|jA 4 rfl ?_
 replace hb2:=(hb2.m Xd).m e4
 refine ld rfl hb2 rfl<|ix rfl rfl rfl<|jC 1 rfl ?_
 replace hA1:=(hA1.m Xd).m e4
 refine Hq (ao Fb.h rfl Xr (hA1.get (j:=1) rfl))<|cl rfl (hKn _) ?_
 rintro v5 w5 ⟨a,b,rfl,hC,e5⟩
 have q1C:=hC.one
 have:=e5.s
 refine jC 3 rfl ?_
 replace he:=(((he.t e3).t Xd).t e4).t e5
 have:=he.s
 replace hb1:=((hb1.m Xd).m e4).m e5
 have:=hb1.lt
 replace hb2:=hb2.m e5
 have:=hb2.lt
 replace hb3:=((hb3.m Xd).m e4).m e5
 have:=hb3.lt
 refine Ha fun w6 hb6 e6=>?_
 have:=hb6.lt
 have:=e6.s
 refine Ho rfl rfl hb6 fun w7 hb6 e7 hz7=>?_
 have:=e7.s
 refine jD 9 rfl<|la rfl hb6<|jC 1 rfl ?_
 replace hb2:=hb2.m (e6.t e7)
 refine ld rfl hb2 rfl<|jC 1 rfl ?_
 replace hb3:=hb3.m (e6.t e7)
 refine ld rfl hb3 rfl ?_
 replace hK:=(((hK.m Xd).m e4).m e5).m (e6.t e7)
 replace hK':=(((hK'.m Xd).m e4).m e5).m (e6.t e7)
 replace hC:=hC.m (e6.t e7)
 refine Hl rfl (mC hC hK hK' hl hlx hly hf) fun w8 e8=>?_
 have:=e8.s
 refine jC 2 rfl<|WC.ret ?_
 replace he:=(he.t (e6.t e7)).t e8
 exact aw rfl ⟨rfl,he.k fun k hk _=>hk⟩
theorem Es(hC:cW A w code fs cells)(hy:aC B w (.mk 21 0 [] ys 0 [uV code]) cy)(hl:fs.length≤1000)(hly:ys.length=fs.length)(hf:∀i (h:i<fs.length),aN fs[i].1 fs[i].2 fs[i].1 (bA ys i)):
  ah TP 35 [.agg cells.toArray,.agg cy.toArray] w fun r w'=>r= .bool true∧ay w w':=by
 replace hC:=hC.lowW (B:=fun b=>b<w.heap.size) fun b hb _=>hb
 replace hy:=hy.weakenW (B:=fun b=>b<w.heap.size) (fun b hb _=>hb)
 obtain⟨p,c,rfl⟩:=hC.open
 obtain⟨pk,ck,pd,cd,rfl,_,_,hK,hD⟩:=hy.openV
 obtain⟨b1,o1,u1,rfl,_,hA1,l1,hR1⟩:=hD.kid (i:=0) (by simp)
 replace hR1:=(show aC (fun b=>b<w.heap.size) w (.mk 5 code [] [] 0 []) u1 from hR1)
 obtain⟨p5,c5,p6,c6,rfl,_⟩:=hR1.openV
 refine aR Tryz.func35 ?_
 have he:=Hi w
 refine jA 2 rfl ?_
 have hs1:=he.s
 refine Hb rfl fun w1 hb1 e1=>?_
 have nx1:=hb1.lt
 have ns1:=e1.s
 replace he:=he.t e1
 have hs2:=he.s
 have hx2b1:=hb1.lt
 refine Hb rfl fun w2 hb2 e2=>?_
 have nx2:=hb2.lt
 have ns2:=e2.s
 refine jC 2 rfl ?_
 replace hC:=(hC.m e1).m e2
 replace hK:=(hK.m e1).m e2
 replace hA1:=(hA1.m e1).m e2
 replace hb1:=hb1.m e2
 refine WC.seq<|WC.seq<|WC.regionD (tt [0,1,2,3,4,5,6,7,8,9,10,11,12,13,14,15,16,17,18,19,20,21,22,23,24,25,26]) (ay _) mixed (by kernel_rfl) Xd ?_
 have nd1w2:w2.drew.heap.size=w2.heap.size:=rfl
 refine jE 1 rfl<|dl rfl hb2 rfl<|jE 3 rfl<|bl rfl rfl rfl hb2 rfl<|jE 1 rfl<|Hf rfl rfl (fun _ hS=>ae (bn rfl rfl) (fI (rfl)))<|jE 3 rfl<|bl rfl rfl rfl hb2 rfl<|Hf rfl rfl (fun _ hS=>bd Fo.h rfl rfl rfl)<|jE 1 rfl<|Hf rfl rfl (fun _ hS=>ao Fb.h rfl hS (hA1.get (j:=0) rfl))<|Hf rfl rfl (fun _ hS=>ae (bn rfl rfl) (fI (rfl)))<|jE 3 rfl<|bl rfl rfl rfl hb2 rfl<|Hf rfl rfl (fun _ hS=>bd Fo.h rfl rfl rfl)<|jE 1 rfl<|Hf rfl rfl (fun _ hS=>ao Fb.h rfl hS (hA1.get (j:=1) rfl))<|jE 1 rfl<|bl rfl rfl rfl hb1 rfl<|Hf rfl rfl (fun _ hS=>ae (bn rfl rfl) (fI (rfl)))<|jE 1 rfl<|WD.nil<|jA 2 rfl ?_
 replace hC:=hC.m Xd
 replace hK:=hK.m Xd
 replace hA1:=hA1.m Xd
 replace hb1:=hb1.m Xd
 replace hb2:=hb2.m Xd
 refine WC.seq<|WC.regionD (tt [0,1,4,5]++ff [2]++tt [3]++ff [6]++tt [7]) (ay _) mixed (by kernel_rfl) Xd ?_
 have nd2w2:w2.drew.drew.heap.size=w2.heap.size:=rfl
 have nd1w2:w2.drew.heap.size=w2.heap.size:=rfl
 refine He (fun _ hS=>ad Fo.h rfl hS hb1.at (hn:=by first|rfl|assumption))<|He (fun _ hS=>ad Fo.h rfl hS hb1.at (hn:=by first|rfl|assumption))<|jE 1 rfl<|dl rfl hb2 rfl<|LL.cd rfl (jF (hC.m Xd) hl) ?_
 rintro v3 w3 ⟨x0,x1,x2,x3,x4,x5,rfl,hR,e3⟩
 obtain⟨q2,q3,q4,q5,qxe,_,_,hZK,_⟩:=hR.openV
 simp only[List.cons.injEq,and_true]at qxe
 obtain⟨rfl,rfl,rfl,rfl,rfl,rfl⟩:=qxe
 have ns3:=e3.s
 refine⟨(Vd.t e3),?_⟩
 refine He (fun _ hS=>zE Fo.h rfl rfl)<|LL.cd rfl (mC ((hC.m Xd).m e3) hZK ((hK.m Xd).m e3) hl (by simp) hly (fun i h=>by have:=hf i h;rw[show bA (fs.map (·.1)) i=fs[i].1 from by rw[← bW (by simpa using h)];simp];exact this)) ?_
 rintro v4 w4 ⟨rfl,e4⟩
 have ns4:=e4.s
 refine⟨((Vd.t e3).t e4),?_⟩
 refine jE 1 rfl<|WD.nil<|WC.ret ?_
 replace he:=((((he.t e2).t Xd).t Xd).t e3).t e4
 exact aw rfl ⟨rfl,he.k fun k hk _=>hk⟩
end Go.Proofs.LL
