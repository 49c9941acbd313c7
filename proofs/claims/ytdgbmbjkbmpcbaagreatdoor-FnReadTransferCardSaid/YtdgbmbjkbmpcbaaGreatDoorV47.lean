/- Contracts of functions and own laws. Conditions: those that each theorem states. -/
import Derived.Test.YtdgbmbjkbmpcbaaGreatDoorV45
set_option linter.all false
set_option autoImplicit true
set_option relaxedAutoImplicit true
set_option maxRecDepth 20000
namespace Go.Proofs.LL
open Go Go.Proofs Go.RowKit
set_option maxHeartbeats 4000000
attribute [local irreducible] ar WL WC cq WT WX
theorem AQ{A:Prop}(h:A:=by
 replace hC:=hC.m (e5.t e6)
 replace hF:=hF.m (e5.t e6)
 replace hb1:=hb1.m (e5.t e6)
 replace hZD:=(hZD.m hE).m (e5.t e6)
 replace hb3:=hb3.m (e5.t e6)
 replace hO:=hO.m (e5.t e6)
 replace hV:=hV.m (e5.t e6)
 replace hAt:=hAt.m (e5.t e6)
 replace hR1:=hR1.m (e5.t e6)
 replace hR2:=hR2.m (e5.t e6)
 replace hcell:=hcell.m (e5.t e6)
 replace hRy0:=hRy0.m (e5.t e6)
 refine WC.regionDL 11 (tt [0,1,2,3,4,5,6,7,8]++ff [9]++tt [10]++ff [11]) (am (fun b=>b≠fb) _) mixed (by kernel_rfl) Vd ?_
 have nd1w6:w6.drew.heap.size=w6.heap.size:=rfl
 refine jE 1 rfl<|dl rfl hb3 rfl<|jE 3 rfl<|dl rfl hb3 rfl<|jE 1 rfl<|He (fun _ hS=>bd Fo.h rfl rfl rfl)<|He (fun _ hS=>ad Fo.h rfl hS hcell (hn:=rfl))<|LL.cd rfl (jJ (hRy0.m Xd) (hF.m Xd) (fun b h=>h.2.2)) ?_
 rintro v7 w7 ⟨y,y0,y1,y2,y3,y4,y5,rfl,qIn,hRn,hF,e7⟩
 have q1y:=hRn.one
 have:=e7.s
 refine⟨(Vd.t e7),?_⟩
 refine He (fun _ hS=>bd Fo.h rfl rfl rfl) ?_
 replace hO:=(hO.m Xd).m e7
 refine WD.l0L rfl rfl (fV Fo.h rfl rfl q1y rfl hO (by omega) qi) ?_
 rintro _ w8 ⟨hO,e8,hz8⟩
 have:=e8.s
 refine WT.nil<|jA 1 rfl<|ai rfl rfl rfl<|jC 2 rfl ?_
 replace hF:=hF.m e8
 replace hV:=((hV.m Xd).m e7).m e8
 replace hRn:=hRn.m e8
 exact⟨(i+1),sb,sb,⟨⟨_,_,hO,ag.set (by first|omega|(simp only[List.length_set];omega)) hV (hRn.k fun b h=>h.1),(qnx y qIn.put)⟩,hF,qi,(((((hE.t (e5.t e6)).t Xd).t e7).t e8))⟩,(by show fs.length-(i+1)<fs.length-i;omega)⟩):A:=h
theorem AR{A:Prop}(h:A:=by
 exact aw rfl ⟨ys.take (m+1),bs,by omega,qput,qE,hP.low (by omega),hF,he.k fun b hb h=>⟨hb,h⟩⟩):A:=h
def iH(v:V):Prop:=Wt v∧(v.kind=0→v=aX)∧(v.kind=23→∀s∈v.kids,Wt s)
theorem Bt{ys:List V}(hi:i<ys.length):bA (ys.set i y) j=if j=i then y else bA ys j:=by
 unfold bA
 rw[List.getElem?_set]
 by_cases h:j=i
 ·subst h;simp[hi]
 ·simp[h,Ne.symm h]
theorem yV{ys:List V}:bA (ys.take m) j=if j<m then bA ys j else aX:=by
 unfold bA
 rw[List.getElem?_take]
 split<;>rfl
def oA(fs:List (V×V))(ys:List V)(i:Nat):Prop:=ys.length=fs.length∧∀j (h:j<fs.length),(j<i→fw fs[j].1 fs[j].2 (bA ys j))∧(i≤j→bA ys j=fs[j].1)
theorem oA.zero(fs:List (V×V)):oA fs (fs.map (·.1)) 0:=⟨by simp,fun j h=>⟨fun h0=>absurd h0 (Nat.not_lt_zero j),fun _=>by rw[← bW (by simpa using h)];simp⟩⟩
theorem oA.next(h:oA fs ys i)(hi:i<fs.length)(hp:fw fs[i].1 fs[i].2 y):oA fs (ys.set i y) (i+1):=by
 obtain⟨hl,h⟩:=h
 refine⟨by simp[hl],fun j hj=>?_⟩
 rw[Bt (by omega)]
 refine⟨fun h1=>?_,fun h1=>?_⟩
 ·split
  ·rename_i e;subst e;exact hp
  ·exact(h j hj).1 (by omega)
 ·rw[if_neg (by omega)];exact(h j hj).2 (by omega)
theorem Er.put(h:Er v y):fw v d y:=by
 rcases h with h|h
 ·exact .inl h
 ·exact .inr (.inr h)
theorem Er.null(h:Er aX y):y=aX:=by
 rcases h with h|⟨h,_⟩
 ·exact h
 ·exact absurd h (by decide)
theorem i6{cx:List Value}(hs:same x y=true)(hv:aE x≤1000000000)(hx:aC A w x cx)(hy:aC B w y cy):
  ah TP 31 [.agg cx.toArray,.agg cy.toArray] w fun r w'=>r= .bool true∧ay w w':=by
 have h:=eR hv hx hy
 rw[hs]at h;exact h
theorem me{cx:List Value}(hs:same x y=false)(hv:aE x≤1000000000)(hx:aC A w x cx)(hy:aC B w y cy):
  ah TP 31 [.agg cx.toArray,.agg cy.toArray] w fun r w'=>r= .bool false∧ay w w':=by
 have h:=eR hv hx hy
 rw[hs]at h;exact h
theorem aT.cellAt{g i:Nat}{cs vs ds:List Value}(h:aT B e 6 w (.slice (some ⟨g,0,none⟩) n c) n (cs.take (i * 6)++vs++ds))(hn:0<n)(hi:i * 6≤cs.length):At w g (0+i * 6) vs:=by
 have h1:=(h.at0 hn).1
 rw[List.append_assoc]at h1
 have h2:=h1.mid
 rw[List.length_take,Nat.min_eq_left hi]at h2
 exact h2
mutual
theorem oe:∀x:V,aE x≤vol x
 | .mk k n t ks o d=>by
  have:=jw ks
  have:=jw d
  rw[aE,vol];omega
theorem jw:∀l:List V,aj l≤bF l
 |[]=>by rw[aj];omega
 |x::r=>by
  have:=oe x
  have:=jw r
  rw[aj,bF];omega
end
theorem fw.vol(h:fw v d y):vol y≤vol v:=by
 rcases h with rfl|⟨rfl,_⟩|⟨_,s,h1,_,rfl⟩
 ·omega
 ·exact wF v
 ·obtain⟨k,n,t,ks,o,d'⟩:=v
  simp only[V.kids]at h1
  subst h1
  rw[show LL.vol (.mk k n t [y] o d')=64+t.length+bF [y]+bF d' from by rw[LL.vol],bF];omega
theorem fw.wt(h:fw v d y)(hv:iH v):Wt y:=by
 rcases h with rfl|⟨rfl,_⟩|⟨h1,s,h2,_,rfl⟩
 ·exact hv.1
 ·exact m3
 ·exact hv.2.2 h1 _ (by rw[h2];simp)
theorem fw.nul(h:fw v d y)(hv:iH v)(hk:y.kind=0):fw v d aX:=by
 rcases h with rfl|⟨rfl,h⟩|⟨h1,s,h2,h3,rfl⟩
 ·exact .inl (hv.2.1 hk).symm
 ·exact .inr (.inl ⟨rfl,h⟩)
 ·omega
theorem oA.all{fs:List (V×V)}:∀ {ys:List V},ys.length=fs.length→(∀j (h:j<fs.length),fw fs[j].1 fs[j].2 (bA ys j))→(∀f∈fs,iH f.1)→g9 ys∧bF ys≤bF (fs.map (·.1)):=by
 intro ys hl h hW
 refine⟨g9.of fun x hx=>?_,?_⟩
 ·obtain⟨j,hj,rfl⟩:=iy hx
  exact(h j (by omega)).wt (hW _ (List.getElem_mem _))
 ·clear hW
  induction fs generalizing ys with
  |nil=>rw[List.eq_nil_of_length_eq_zero hl];simp
  |cons f r ih=>
   match ys,hl with
   |y::s,hl=>
    have h0:=(h 0 (by simp)).vol
    have h1:=ih (ys:=s) (by simpa using hl) fun j hj=>h (j+1) (by simpa using hj)
    rw[List.map_cons,bF,bF]
    have:vol y≤vol f.1:=h0
    omega
theorem C3(hC:cW A w code fs cells)(hF:Fm w fb)(hA:∀b,A b→b≠fb)(hl:fs.length≤1000)(h0:0<fs.length)(hv:bF (fs.map (·.1))≤999999000)(hcode:code<18446744073709551616)(hW:∀f∈fs,iH f.1):
  ah TP 9 [.agg cells.toArray,.pointer (some ⟨fb,0,none⟩)] w fun r w'=>∃ks bs,ks.length≤fs.length∧(∀j (h:j<fs.length),fw fs[j].1 fs[j].2 (bA ks j))∧g8 (.mk 21 0 [] ks 0 [uV code]) bs∧aT w.heap.size 5 1 w' r bs.length (bc bs)∧Fm w' fb∧am (fun k=>k≠fb) w w':=by
 have:=hF.lt
 replace hC:=(hC.lowW (B:=fun b=>A b∧b<w.heap.size∧b≠fb) fun b hb h=>⟨h,hb,hA b h⟩)
 obtain⟨p,c,rfl⟩:=hC.open
 refine aR Tryz.func9 ?_
 have he:am (fun b=>b<w.heap.size∧b≠fb) w w:=am.refl w
 refine jA 2 rfl ?_
 have:=he.s
 refine Hb rfl fun w1 hb1 e1=>?_
 have:=hb1.lt
 have:=e1.s
 refine jD 4 rfl<|la rfl hb1 ?_
 replace hC:=hC.m e1
 refine cl rfl (r0 hC hl) ?_
 rintro v2 w2 ⟨sv,sd,cs,rfl,hO,hV,hD,e2⟩
 obtain⟨q2,c2,hq2,_,q02⟩:=hO.form
 subst hq2
 obtain⟨g,q12,ng1,ng2,_⟩:=q02 h0
 subst q12
 have hZD:=hD.weakW (l:=[uV code]) (B:=fun b=>w.heap.size≤b∧b≠g∧b<w2.heap.size) (fun b hb h=>⟨Nat.le_trans (by omega) h.1,fun e=>h.2 (by rw[e];rfl),hb⟩)
 obtain⟨pd,cd,qsd⟩:∃p c,sd= .slice p 1 c:=(by {obtain⟨p,c,cells,hx1,_⟩:=hD;exact⟨p,c,hx1⟩})
 subst qsd
 have hZO:=hO.low (B':=w.heap.size) (by omega)
 have hZV:=hV.k (B:=fun b=>A b∧b<w.heap.size∧b≠fb) (fun b h=>h.1)
 have:=e2.s
 replace he:=(he.t e1).t e2
 have:=he.s
 replace hb1:=hb1.m e2
 have:=hb1.lt
 refine Ha fun w3 hb3 e3=>?_
 have:=hb3.lt
 have:=e3.s
 refine Ho rfl rfl hb3 fun w4 hb3 e4 hz4=>?_
 have:=e4.s
 refine jD 5 rfl ?_
 replace hb1:=hb1.m (e3.t e4)
 refine ld rfl hb1 rfl<|jD 4 rfl ?_
 obtain⟨N1,eN1⟩:∃M,M=w4.heap.size:=⟨_,rfl⟩
 replace hC:=(hC.m e2).m (e3.t e4)
 replace hF:=((hF.m e1).m e2).m (e3.t e4)
 replace hZD:=hZD.m (e3.t e4)
 replace hZO:=hZO.m (e3.t e4)
 replace hZV:=hZV.m (e3.t e4)
 replace he:=he.t (e3.t e4)
 refine WC.loop2 (ι:=Nat) [(1,_),(4,_),(5,_),(11,_),(12,_)] (fun i=>[(13,.int .i64 (i:Int))]) (fun i wi=>(∃ys cs,aT w.heap.size 87 6 wi (.slice (some ⟨g,0,none⟩) fs.length c2) fs.length cs∧ag (fun b=>A b∧b<w.heap.size∧b≠fb) wi ys cs∧oA fs ys i)∧Fm wi fb∧i≤fs.length∧am (fun b=>b<N1∧b≠g∧b≠fb) w4 wi) (fun i=>fs.length-i) 0 sb sb (⟨⟨_,_,hZO,hZV,oA.zero fs⟩,hF,Nat.zero_le _,am.refl _⟩) ?_
 intro i wi1 hh;obtain⟨⟨ys,cs,hO,hV,qI⟩,hF,ni,hE⟩:=hh
 have:=hE.s
 have qyl:=qI.1
 rcases Nat.lt_or_ge i fs.length with qi|qi
 replace hC:=hC.m hE
 ·obtain⟨b,o,a0,a1,a2,a3,a4,a5,b0,b1,b2,b3,b4,b5,rfl,qA,hAt,hR1,hR2,qc⟩:=hC.idx qi
  have q1:=hR1.one
  have q12:[a0,a1,a2,a3,a4,a5,b0,b1,b2,b3,b4,b5].all (fun v=>v.oneCell')=true:=eH q1 hR2.one
  have qfl:=(qI.2 i qi).2 (Nat.le_refl _)
  have qmem:fs[i]∈fs:=List.getElem_mem qi
  have nvol:vol fs[i].1≤999999000:=Nat.le_trans (tF (List.mem_map_of_mem qmem)) hv
  have ncnt:=oe fs[i].1
  obtain⟨v,hv1⟩:∃v,v=fs[i].1:=⟨_,rfl⟩
  obtain⟨dv,hd1⟩:∃v,v=fs[i].2:=⟨_,rfl⟩
  rw[← hv1]at hR1 nvol ncnt qfl
  rw[← hd1]at hR2
  have qnx:=fun y=>oA.next (y:=y) qI qi
  rw[← hv1,← hd1]at qnx
  obtain⟨pre,cc,post,hcs,npre,hRy0⟩:=hV.get (i:=i) (by omega)
  obtain⟨x0,x1,x2,x3,x4,x5,rfl⟩:=hRy0.six
  rw[bW (by omega),qfl]at hRy0
  have qat:=(hO.at0 h0).1
  rw[hcs]at qat
  have hcell:=qat.mid
  rw[npre]at hcell
  have qs1:=hRy0.one
  have ncs:=hO.length
  obtain⟨k,n,t,ks,oo,d⟩:=v
  obtain⟨dk,dn,dt,dks,doo,dd⟩:=dv
  obtain⟨pk,ck,pd,cd,hcx,_,_,_,_⟩:=hR1.openV
  simp only[List.cons.injEq,and_true]at hcx
  obtain⟨rfl,rfl,rfl,rfl,rfl,rfl⟩:=hcx
  obtain⟨pk2,ck2,pd2,cd2,hcx,_,_,_,_⟩:=hR2.openV
  simp only[List.cons.injEq,and_true]at hcx
  obtain⟨rfl,rfl,rfl,rfl,rfl,rfl⟩:=hcx
  rcases Decidable.em (k=0)with qk|qk
  ·refine jA 2 rfl<|lT rfl rfl<|jD 9 rfl<|ix rfl rfl rfl<|Hq (ad Fo.h rfl Xr hAt (hn:=rfl)) ?_
   replace he:=he.t hE
   have hs5:=he.s
   replace hb1:=hb1.m hE
   have hx5b1:=hb1.lt
   replace hb3:=hb3.m hE
   have hx5b3:=hb3.lt
   refine Ha fun w5 hb5 e5=>?_
   have nx5:=hb5.lt
   have ns5:=e5.s
   refine jC 1 rfl<|Ho rfl rfl hb5 fun w6 hb5 e6 hz6=>?_
   have ns6:=e6.s
   refine jD 6 rfl<|ld rfl hb5 rfl<|Hq (ae (bn rfl rfl) (fI (qk)))<|jD 21 rfl ?_
   exact AQ
  ·rcases Decidable.em (dk=0)with qd|qd
   ·refine jA 2 rfl<|lT rfl rfl<|jD 9 rfl<|ix rfl rfl rfl<|Hq (ad Fo.h rfl Xr hAt (hn:=rfl)) ?_
    replace he:=he.t hE
    have hs5:=he.s
    replace hb1:=hb1.m hE
    have hx5b1:=hb1.lt
    replace hb3:=hb3.m hE
    have hx5b3:=hb3.lt
    refine Ha fun w5 hb5 e5=>?_
    have nx5:=hb5.lt
    have ns5:=e5.s
    refine jC 1 rfl<|Ho rfl rfl hb5 fun w6 hb5 e6 hz6=>?_
    have ns6:=e6.s
    refine jD 6 rfl<|ld rfl hb5 rfl<|Hq (ae (bn rfl rfl) (kQ (qk)))<|jC 3 rfl<|LL.lg rfl rfl rfl hb5 rfl<|Hg rfl rfl (ae (bn rfl rfl) (fI (qd)))<|jD 16 rfl ?_
    exact AQ
   ·rcases Bool.eq_false_or_eq_true (same (.mk k n t ks oo d) (.mk dk dn dt dks doo dd))with qs|qs
    rotate_left
    ·refine jA 2 rfl<|lT rfl rfl<|jD 9 rfl<|ix rfl rfl rfl<|Hq (ad Fo.h rfl Xr hAt (hn:=rfl)) ?_
     replace he:=he.t hE
     have hs5:=he.s
     replace hb1:=hb1.m hE
     have hx5b1:=hb1.lt
     replace hb3:=hb3.m hE
     have hx5b3:=hb3.lt
     refine Ha fun w5 hb5 e5=>?_
     have nx5:=hb5.lt
     have ns5:=e5.s
     refine jC 1 rfl<|Ho rfl rfl hb5 fun w6 hb5 e6 hz6=>?_
     have ns6:=e6.s
     refine jD 6 rfl<|ld rfl hb5 rfl<|Hq (ae (bn rfl rfl) (kQ (qk)))<|jC 3 rfl<|LL.lg rfl rfl rfl hb5 rfl<|Hg rfl rfl (ae (bn rfl rfl) (kQ (qd)))<|jC 3 rfl<|Hg rfl rfl (ad Fo.h rfl Xr (At.pre (c:=[_,_,_,_,_,_]) hb5.at) (hn:=rfl))<|jC 1 rfl<|Hg rfl rfl (ad Fo.h rfl Xr (At.suf (c:=[_,_,_,_,_,_]) hb5.at) (hn:=rfl)) ?_
     replace hR1:=hR1.m (e5.t e6)
     replace hR2:=hR2.m (e5.t e6)
     refine WL.lg rfl rfl rfl rfl (cD Fb.h rfl (me qs (by omega) hR1 hR2)) ?_
     rintro v7 w7 ⟨rfl,e7⟩
     have ns7:=e7.s
     refine jD 9 rfl ?_
     replace hC:=(hC.m (e5.t e6)).m e7
     replace hF:=(hF.m (e5.t e6)).m e7
     replace hb1:=(hb1.m (e5.t e6)).m e7
     replace hZD:=((hZD.m hE).m (e5.t e6)).m e7
     replace hb3:=(hb3.m (e5.t e6)).m e7
     replace hO:=(hO.m (e5.t e6)).m e7
     replace hV:=(hV.m (e5.t e6)).m e7
     replace hAt:=(hAt.m (e5.t e6)).m e7
     replace hR1:=hR1.m e7
     replace hR2:=hR2.m e7
     replace hcell:=(hcell.m (e5.t e6)).m e7
     replace hRy0:=(hRy0.m (e5.t e6)).m e7
     replace hb5:=hb5.m e7
     refine WC.regionDL 11 (tt [0,1,2,3,4,5,6,7,8]++ff [9]++tt [10]++ff [11]) (am (fun b=>b≠fb) _) mixed (by kernel_rfl) Vd ?_
     have nd1w7:w7.drew.heap.size=w7.heap.size:=rfl
     refine jE 1 rfl<|dl rfl hb3 rfl<|jE 3 rfl<|dl rfl hb3 rfl<|jE 1 rfl<|He (fun _ hS=>bd Fo.h rfl rfl rfl)<|He (fun _ hS=>ad Fo.h rfl hS hcell (hn:=rfl))<|LL.cd rfl (jJ (hRy0.m Xd) (hF.m Xd) (fun b h=>h.2.2)) ?_
     rintro v8 w8 ⟨y,y0,y1,y2,y3,y4,y5,rfl,qIn,hRn,hF,e8⟩
     have q1y:=hRn.one
     have ns8:=e8.s
     refine⟨(Vd.t e8),?_⟩
     refine He (fun _ hS=>bd Fo.h rfl rfl rfl) ?_
     replace hO:=(hO.m Xd).m e8
     refine WD.l0L rfl rfl (fV Fo.h rfl rfl q1y rfl hO (by omega) qi) ?_
     rintro _ w9 ⟨hO,e9,hz9⟩
     have ns9:=e9.s
     refine WT.nil<|jA 1 rfl<|ai rfl rfl rfl<|jC 2 rfl ?_
     replace hF:=hF.m e9
     replace hV:=((hV.m Xd).m e8).m e9
     replace hRn:=hRn.m e9
     exact⟨(i+1),sb,sb,⟨⟨_,_,hO,ag.set (by first|omega|(simp only[List.length_set];omega)) hV (hRn.k fun b h=>h.1),(qnx y qIn.put)⟩,hF,qi,((((((hE.t (e5.t e6)).t e7).t Xd).t e8).t e9))⟩,(by show fs.length-(i+1)<fs.length-i;omega)⟩
    ·refine jA 2 rfl<|lT rfl rfl<|jD 9 rfl<|ix rfl rfl rfl<|Hq (ad Fo.h rfl Xr hAt (hn:=rfl)) ?_
     replace he:=he.t hE
     have hs5:=he.s
     replace hb1:=hb1.m hE
     have hx5b1:=hb1.lt
     replace hb3:=hb3.m hE
     have hx5b3:=hb3.lt
     refine Ha fun w5 hb5 e5=>?_
     have nx5:=hb5.lt
     have ns5:=e5.s
     refine jC 1 rfl<|Ho rfl rfl hb5 fun w6 hb5 e6 hz6=>?_
     have ns6:=e6.s
     refine jD 6 rfl<|ld rfl hb5 rfl<|Hq (ae (bn rfl rfl) (kQ (qk)))<|jC 3 rfl<|LL.lg rfl rfl rfl hb5 rfl<|Hg rfl rfl (ae (bn rfl rfl) (kQ (qd)))<|jC 3 rfl<|Hg rfl rfl (ad Fo.h rfl Xr (At.pre (c:=[_,_,_,_,_,_]) hb5.at) (hn:=rfl))<|jC 1 rfl<|Hg rfl rfl (ad Fo.h rfl Xr (At.suf (c:=[_,_,_,_,_,_]) hb5.at) (hn:=rfl)) ?_
     replace hR1:=hR1.m (e5.t e6)
     replace hR2:=hR2.m (e5.t e6)
     refine WL.lg rfl rfl rfl rfl (cD Fb.h rfl (i6 qs (by omega) hR1 hR2)) ?_
     rintro v7 w7 ⟨rfl,e7⟩
     have ns7:=e7.s
     refine jC 3 rfl ?_
     replace hF:=(hF.m (e5.t e6)).m e7
     refine WL.lg rfl rfl rfl rfl (cD Fb.h rfl (jM (n:=2) hF (by omega) (by omega))) ?_
     rintro v8 w8 ⟨⟨ki,qki,rfl⟩,hF,e8⟩
     have ns8:=e8.s
     rcases Nat.eq_zero_or_pos ki with q|q
     ·refine Hg rfl rfl (ae (ak rfl rfl) (br (by(omega))))<|jD 5 rfl ?_
      replace hb3:=((hb3.m (e5.t e6)).m e7).m e8
      refine ld rfl hb3 rfl<|jC 1 rfl<|Hq (az (cs:=[_,_,_,_,_,_]) Fo.h rfl rfl)<|ix rfl rfl rfl ?_
      replace hO:=((hO.m (e5.t e6)).m e7).m e8
      replace hV:=((hV.m (e5.t e6)).m e7).m e8
      refine WL.l0 ((have _q:=hV;fV Fo.h rfl rfl rfl rfl hO (by omega) qi)) ?_
      rintro _ w9 ⟨hO,e9,hz9⟩
      have hZV:=ag.set (i:=i) (y:=aX) (by omega) (hV.m e9) dO
      have hZc:=hO.cellAt h0 (by omega)
      have ns9:=e9.s
      refine WL.nil ?_
      replace hC:=(((hC.m (e5.t e6)).m e7).m e8).m e9
      replace hF:=hF.m e9
      replace hb1:=(((hb1.m (e5.t e6)).m e7).m e8).m e9
      replace hZD:=((((hZD.m hE).m (e5.t e6)).m e7).m e8).m e9
      replace hb3:=hb3.m e9
      replace hV:=hV.m e9
      replace hAt:=(((hAt.m (e5.t e6)).m e7).m e8).m e9
      replace hR1:=((hR1.m e7).m e8).m e9
      replace hR2:=((hR2.m e7).m e8).m e9
      replace hRy0:=(((hRy0.m (e5.t e6)).m e7).m e8).m e9
      replace hb5:=((hb5.m e7).m e8).m e9
      refine WC.regionDL 11 (tt [0,1,2,3,4,5,6,7,8]++ff [9]++tt [10]++ff [11]) (am (fun b=>b≠fb) _) mixed (by kernel_rfl) Vd ?_
      have nd1w9:w9.drew.heap.size=w9.heap.size:=rfl
      refine jE 1 rfl<|dl rfl hb3 rfl<|jE 3 rfl<|dl rfl hb3 rfl<|jE 1 rfl<|He (fun _ hS=>bd Fo.h rfl rfl rfl)<|He (fun _ hS=>ad Fo.h rfl hS hZc (hn:=rfl))<|LL.cd rfl (jJ (dO (A:=fun b=>A b∧b<w.heap.size∧b≠fb)) (hF.m Xd) (fun b h=>h.2.2)) ?_
      rintro v10 w10 ⟨y,y0,y1,y2,y3,y4,y5,rfl,qIn,hRn,hF,e10⟩
      have q1y:=hRn.one
      have ns10:=e10.s
      refine⟨(Vd.t e10),?_⟩
      refine He (fun _ hS=>bd Fo.h rfl rfl rfl) ?_
      replace hO:=(hO.m Xd).m e10
      refine WD.l0L rfl rfl (fV Fo.h rfl rfl q1y rfl hO (by omega) qi) ?_
      rintro _ w11 ⟨hO,e11,hz11⟩
      have:=e11.s
      refine WT.nil<|jA 1 rfl<|ai rfl rfl rfl<|jC 2 rfl ?_
      replace hF:=hF.m e11
      replace hZV:=((hZV.m Xd).m e10).m e11
      replace hRn:=hRn.m e11
      exact⟨(i+1),sb,sb,⟨⟨_,_,hO,ag.set (by first|omega|(simp only[List.length_set];omega)) hZV (hRn.k fun b h=>h.1),(by rw[List.set_set,qIn.null];exact qnx aX (.inr (.inl ⟨rfl,.inr ⟨qd,qs⟩⟩)))⟩,hF,qi,((((((((hE.t (e5.t e6)).t e7).t e8).t e9).t Xd).t e10).t e11))⟩,(by show fs.length-(i+1)<fs.length-i;omega)⟩
     ·refine Hg rfl rfl (ae (ak rfl rfl) (bk (by(omega))))<|jD 4 rfl ?_
      replace hC:=((hC.m (e5.t e6)).m e7).m e8
      replace hb1:=((hb1.m (e5.t e6)).m e7).m e8
      replace hZD:=(((hZD.m hE).m (e5.t e6)).m e7).m e8
      replace hb3:=((hb3.m (e5.t e6)).m e7).m e8
      replace hO:=((hO.m (e5.t e6)).m e7).m e8
      replace hV:=((hV.m (e5.t e6)).m e7).m e8
      replace hAt:=((hAt.m (e5.t e6)).m e7).m e8
      replace hR1:=(hR1.m e7).m e8
      replace hR2:=(hR2.m e7).m e8
      replace hcell:=((hcell.m (e5.t e6)).m e7).m e8
      replace hRy0:=((hRy0.m (e5.t e6)).m e7).m e8
      replace hb5:=(hb5.m e7).m e8
      refine WC.regionDL 11 (tt [0,1,2,3,4,5,6,7,8]++ff [9]++tt [10]++ff [11]) (am (fun b=>b≠fb) _) mixed (by kernel_rfl) Vd ?_
      have nd1w8:w8.drew.heap.size=w8.heap.size:=rfl
      refine jE 1 rfl<|dl rfl hb3 rfl<|jE 3 rfl<|dl rfl hb3 rfl<|jE 1 rfl<|He (fun _ hS=>bd Fo.h rfl rfl rfl)<|He (fun _ hS=>ad Fo.h rfl hS hcell (hn:=rfl))<|LL.cd rfl (jJ (hRy0.m Xd) (hF.m Xd) (fun b h=>h.2.2)) ?_
      rintro v9 w9 ⟨y,y0,y1,y2,y3,y4,y5,rfl,qIn,hRn,hF,e9⟩
      have q1y:=hRn.one
      have ns9:=e9.s
      refine⟨(Vd.t e9),?_⟩
      refine He (fun _ hS=>bd Fo.h rfl rfl rfl) ?_
      replace hO:=(hO.m Xd).m e9
      refine WD.l0L rfl rfl (fV Fo.h rfl rfl q1y rfl hO (by omega) qi) ?_
      rintro _ w10 ⟨hO,e10,hz10⟩
      have ns10:=e10.s
      refine WT.nil<|jA 1 rfl<|ai rfl rfl rfl<|jC 2 rfl ?_
      replace hF:=hF.m e10
      replace hV:=((hV.m Xd).m e9).m e10
      replace hRn:=hRn.m e10
      exact⟨(i+1),sb,sb,⟨⟨_,_,hO,ag.set (by first|omega|(simp only[List.length_set];omega)) hV (hRn.k fun b h=>h.1),(qnx y qIn.put)⟩,hF,qi,(((((((hE.t (e5.t e6)).t e7).t e8).t Xd).t e9).t e10))⟩,(by show fs.length-(i+1)<fs.length-i;omega)⟩
 ·have hil:i=fs.length:=by omega
  obtain⟨qat,qgl2,_,nc2⟩:=hO.at0 h0
  refine jA 2 rfl<|lF rfl rfl<|jD 3 rfl<|WC.exit<|jA 2 rfl ?_
  obtain⟨N2,eN2⟩:∃M,M=wi1.heap.size:=⟨_,rfl⟩
  replace hC:=hC.m hE
  replace hb1:=hb1.m hE
  replace hZD:=hZD.m hE
  replace hb3:=hb3.m hE
  replace he:=he.t hE
  refine WC.loop2 (ι:=Nat) [(1,_),(4,_),(5,_),(11,_),(12,_),(13,_)] (fun m=>[]) (fun m wi=>aH wi w2.heap.size [.int .i64 21,.int .u64 0,str [],.slice (some ⟨g,0,none⟩) m c2,.int .i64 0,.slice pd 1 cd]∧m≤fs.length∧(∀j (h:j<fs.length),m≤j→fw fs[j].1 fs[j].2 aX)∧Fm wi fb∧am (fun b=>b<N2∧b≠w2.heap.size∧b≠fb) wi1 wi) (fun m=>m) fs.length sb .nil (⟨hb3,Nat.le_refl _,fun j h h2=>absurd h (by omega),hF,am.refl _⟩) ?_
  intro m wi2 hh;obtain⟨hb3,nm,qN,hF,hE⟩:=hh
  have:=hE.s
  have qst:ys.length=fs.length∧∀j (h:j<fs.length),fw fs[j].1 fs[j].2 (bA ys j):=⟨qI.1,fun j h=>(qI.2 j h).1 (by omega)⟩
  have qlen:(ys.take m).length=m:=by rw[List.length_take,qst.1];omega
  have qmc:m≤c2:=by omega
  replace hV:=hV.m hE
  have qRK:ag (fun b=>b≠fb) wi2 (ys.take m) (cs.take (m * 6)):=(hV.take m).k fun b h=>h.2.2
  replace qat:=qat.m hE
  have qK:cM (fun b=>b≠fb) wi2 (ys.take m).length (.slice (some ⟨g,0,none⟩) m c2) (ag (fun b=>b≠fb) wi2 (ys.take m)):=⟨_,c2,_,by rw[qlen],by omega,qRK,.inr ⟨g,0,rfl,by omega,qat.takeL _⟩⟩
  replace hZD:=hZD.m hE
  have hfin:aC (fun b=>b≠fb) wi2 (.mk 21 0 [] (ys.take m) 0 [uV code]) [.int .i64 21,.int .u64 0,str [],.slice (some ⟨g,0,none⟩) m c2,.int .i64 0,.slice pd 1 cd]:=by rw[aC];exact⟨_,_,rfl,qK,hZD.low (n:=1) (l:=[uV code]) fun b h=>by have:=h.1;show b≠fb;omega⟩
  have qput:∀j (h:j<fs.length),fw fs[j].1 fs[j].2 (bA (ys.take m) j):=by
   intro j h
   rw[yV]
   split
   ·exact qst.2 j h
   ·exact qN j h (by omega)
  have qall:=oA.all qst.1 qst.2 hW
  have qWt:Wt (.mk 21 0 [] (ys.take m) 0 [uV code]):=by
   rw[Wt]
   exact⟨by omega,by omega,by omega,jg (by omega) (by omega) (by omega) (by omega) (by omega),by omega,.inr ⟨code,hcode,rfl⟩,fun _=>g9.of fun x hx=>qall.1.mem x (List.mem_of_mem_take hx),fun h=>by omega⟩
  have nvl:=dG ys m
  have nvol:vol (.mk 21 0 [] (ys.take m) 0 [uV code])≤1000000000:=by
   have e1:vol (.mk 21 0 [] (ys.take m) 0 [uV code])=64+([]:List UInt8).length+bF (ys.take m)+bF [uV code]:=by rw[vol]
   have e2:bF [uV code]=64:=by simp[bF,vol,uV]
   rw[e1,e2,List.length_nil]
   omega
  rcases m with _|m
  ·refine jA 4 rfl<|ld rfl hb3 rfl<|jC 1 rfl<|Hq (ae (aS rfl rfl) (decide_eq_false (by(omega))))<|jD 19 rfl<|WC.exit<|jA 2 rfl<|la rfl hb3<|jC 1 rfl<|cl rfl (BP _ _ _ _ hfin hF nvol qWt) ?_
   rintro v5 w5 ⟨bs,qE,hP,hF,e5⟩
   have ns5:=e5.s
   refine jC 2 rfl<|WC.ret ?_
   replace he:=(he.t hE).t e5
   exact aw rfl ⟨ys.take 0,bs,by omega,qput,qE,hP.low (by omega),hF,he.k fun b hb h=>⟨hb,h⟩⟩
  ·obtain⟨pre,cc,post,hcs,npre,hRy0⟩:=hV.get (i:=m) (by omega)
   rw[hcs]at qat
   have hcell:=qat.mid
   rw[npre]at hcell
   rw[bW (by omega)]at hRy0
   rcases hfm:bA ys m with⟨k,n,t,ks,oo,d⟩
   rw[hfm]at hRy0
   obtain⟨pk,ck,pd2,cd2,rfl,_,_,_,_⟩:=hRy0.openV
   rcases Decidable.em (k=0)with qk|qk
   ·refine jA 4 rfl<|ld rfl hb3 rfl<|jC 1 rfl<|Hq (ae (aS rfl rfl) (decide_eq_true (by(omega))))<|jC 2 rfl<|LL.lg rfl rfl rfl hb3 rfl<|jC 1 rfl<|LL.lg rfl rfl rfl hb3 rfl<|jC 1 rfl<|Hg rfl rfl (bP (c:=(m:Int)) rfl rfl (by omega) (by omega) (by omega))<|Hg rfl rfl (bd Fo.h rfl rfl rfl)<|jC 1 rfl<|Hg rfl rfl (ao Fb.h rfl Xr (hcell.get (j:=0) rfl))<|Hg rfl rfl (ae (ak rfl rfl) (br (qk)))<|jC 3 rfl<|WL.lg rfl rfl rfl rfl (cD Fb.h rfl (jM (n:=4) hF (by omega) (by omega))) ?_
    rintro v5 w5 ⟨⟨ki,qki,rfl⟩,hF,e5⟩
    have ns5:=e5.s
    rcases Nat.eq_zero_or_pos ki with q|q
    ·refine Hg rfl rfl (ae (aS rfl rfl) (decide_eq_false (by(omega))))<|jD 3 rfl<|WC.exit<|jA 2 rfl ?_
     replace hb3:=hb3.m e5
     refine la rfl hb3<|jC 1 rfl ?_
     replace hfin:=hfin.m e5
     refine cl rfl (BP _ _ _ _ hfin hF nvol qWt) ?_
     rintro v6 w6 ⟨bs,qE,hP,hF,e6⟩
     have ns6:=e6.s
     refine jC 2 rfl<|WC.ret ?_
     replace he:=((he.t hE).t e5).t e6
     exact AR
    ·refine Hg rfl rfl (ae (aS rfl rfl) (decide_eq_true (by(omega))))<|jD 4 rfl<|jA 3 rfl ?_
     replace hb3:=hb3.m e5
     refine ld rfl hb3 rfl<|jC 1 rfl<|ld rfl hb3 rfl<|jC 1 rfl<|Hq (bP (c:=(m:Int)) rfl rfl (by omega) (by omega) (by omega))<|Hq (bu Fo.h rfl rfl rfl)<|jC 1 rfl<|Hp rfl rfl hb3 fun w6 hb3 e6 hz6=>?_
     have ns6:=e6.s
     refine WL.nil ?_
     replace hF:=hF.m e6
     exact⟨m,sb,.nil,⟨hb3,by omega,fun j h h2=>(if e:j=m then(by subst e;exact(qst.2 _ h).nul (hW _ (List.getElem_mem h)) (by rw[hfm];exact qk))else qN j h (by omega)),hF,(((hE.t e5).t e6))⟩,(by show m<m+1;omega)⟩
   ·refine jA 4 rfl<|ld rfl hb3 rfl<|jC 1 rfl<|Hq (ae (aS rfl rfl) (decide_eq_true (by(omega))))<|jC 2 rfl<|LL.lg rfl rfl rfl hb3 rfl<|jC 1 rfl<|LL.lg rfl rfl rfl hb3 rfl<|jC 1 rfl<|Hg rfl rfl (bP (c:=(m:Int)) rfl rfl (by omega) (by omega) (by omega))<|Hg rfl rfl (bd Fo.h rfl rfl rfl)<|jC 1 rfl<|Hg rfl rfl (ao Fb.h rfl Xr (hcell.get (j:=0) rfl))<|Hg rfl rfl (ae (ak rfl rfl) (bk (qk)))<|jD 8 rfl<|WC.exit<|jA 2 rfl<|la rfl hb3<|jC 1 rfl<|cl rfl (BP _ _ _ _ hfin hF nvol qWt) ?_
    rintro v5 w5 ⟨bs,qE,hP,hF,e5⟩
    have ns5:=e5.s
    refine jC 2 rfl<|WC.ret ?_
    replace he:=(he.t hE).t e5
    exact AR
end Go.Proofs.LL
