/- Own laws of frames, operations and loops, and contracts of functions of the program. Conditions: those that each theorem states. -/
import Derived.Test.YtdgbmbjkbmpcbaaGreatDoorV45
set_option linter.all false
set_option maxRecDepth 20000
namespace Go.Proofs.LL
open Go Go.Proofs Go.RowKit
set_option maxHeartbeats 4000000
attribute [local irreducible] RunOp WL WC WDL WT WX
theorem mv{A:Prop}(h:A:=by
 replace hC:=hC.mono (e5.then e6)
 replace hF:=hF.mono (e5.then e6)
 replace hb1:=hb1.mono (e5.then e6)
 replace hZD:=(hZD.mono hE).mono (e5.then e6)
 replace hb3:=hb3.mono (e5.then e6)
 replace hO:=hO.mono (e5.then e6)
 replace hV:=hV.mono (e5.then e6)
 replace hAt:=hAt.mono (e5.then e6)
 replace hR1:=hR1.mono (e5.then e6)
 replace hR2:=hR2.mono (e5.then e6)
 replace hcell:=hcell.mono (e5.then e6)
 replace hRy0:=hRy0.mono (e5.then e6)
 refine WC.regionDL 11 (tt [0,1,2,3,4,5,6,7,8]++ff [9]++tt [10]++ff [11]) (Evo (fun b=>b≠fb) _) mixed (by kernel_rfl) (Evo.drew _) ?_
 have nd1w6:w6.drew.heap.size=w6.heap.size:=rfl
 refine jE 1 rfl<|dl rfl hb3 rfl<|jE 3 rfl<|dl rfl hb3 rfl<|jE 1 rfl ?_
 refine WD.q rfl (fun _ hS=>r_idx Fo.h rfl rfl rfl (by first|omega|(simp;done)|(simp;omega))) ?_
 refine WD.q rfl (fun _ hS=>r_loadAgg Fo.h rfl hS hcell (hn:=rfl)) ?_
 refine LL.cd rfl (cS (hRy0.mono (Ext.drew _)) (hF.mono (Ext.drew _)) (fun b h=>h.2.2)) ?_
 rintro v7 w7 ⟨y,y0,y1,y2,y3,y4,y5,rfl,qIn,hRn,hF,e7⟩
 have q1y:=hRn.one
 have ns7:=e7.size
 refine⟨((Evo.drew _).then e7),?_⟩
 refine WD.q rfl (fun _ hS=>r_idx Fo.h rfl rfl rfl (by first|omega|(simp;done)|(simp;omega))) ?_
 replace hO:=(hO.mono (Ext.drew _)).mono e7
 refine WD.l0L rfl rfl (bD Fo.h rfl rfl q1y rfl hO (by omega) qi) ?_
 rintro _ w8 ⟨hO,e8,hz8⟩
 have ns8:=e8.size
 refine WT.nil<|jA 1 rfl<|ai rfl rfl rfl<|jC 2 rfl ?_
 replace hF:=hF.mono e8
 replace hV:=((hV.mono (Ext.drew _)).mono e7).mono e8
 replace hRn:=hRn.mono e8
 exact⟨(i+1),sb,sb,⟨⟨_,_,hO,aa.set (by first|omega|(simp only[List.length_set];omega)) hV (hRn.weaken fun b h=>h.1),(qnx y qIn.put)⟩,hF,qi,(((((hE.then (e5.then e6)).then (Ext.drew _)).then e7).then e8))⟩,(by show fs.length-(i+1)<fs.length-i;omega)⟩):A:=h
theorem lO{A:Prop}(h:A:=by
 exact fin1 rfl ⟨ys.take (m+1),bs,by omega,qput,qE,hP.low (by omega),hF,he.weaken fun b hb h=>⟨hb,h⟩⟩):A:=h
def cz(v:V):Prop:=Wt v∧(v.kind=0→v=ap)∧(v.kind=23→∀s∈v.kids,Wt s)
theorem nS{ys:List V}{i j:Nat}{y:V}(hi:i<ys.length):aq (ys.set i y) j=if j=i then y else aq ys j:=by
 unfold aq
 rw[List.getElem?_set]
 by_cases h:j=i
 ·subst h;simp[hi]
 ·simp[h,Ne.symm h]
theorem mD{ys:List V}{m j:Nat}:aq (ys.take m) j=if j<m then aq ys j else ap:=by
 unfold aq
 rw[List.getElem?_take]
 split<;>rfl
def fE(fs:List (V×V))(ys:List V)(i:Nat):Prop:=ys.length=fs.length∧∀j (h:j<fs.length),(j<i→bt fs[j].1 fs[j].2 (aq ys j))∧(i≤j→aq ys j=fs[j].1)
theorem fE.zero(fs:List (V×V)):fE fs (fs.map (·.1)) 0:=⟨by simp,fun j h=>⟨fun h0=>absurd h0 (Nat.not_lt_zero j),fun _=>by rw[← az (by simpa using h)];simp⟩⟩
theorem fE.next{fs:List (V×V)}{ys:List V}{i:Nat}{y:V}(h:fE fs ys i)(hi:i<fs.length)(hp:bt fs[i].1 fs[i].2 y):fE fs (ys.set i y) (i+1):=by
 obtain⟨hl,h⟩:=h
 refine⟨by simp[hl],fun j hj=>?_⟩
 rw[nS (by omega)]
 refine⟨fun h1=>?_,fun h1=>?_⟩
 ·split
  ·rename_i e;subst e;exact hp
  ·exact(h j hj).1 (by omega)
 ·rw[if_neg (by omega)];exact(h j hj).2 (by omega)
theorem rW.put{v d y:V}(h:rW v y):bt v d y:=by
 rcases h with h|h
 ·exact .inl h
 ·exact .inr (.inr h)
theorem rW.null{y:V}(h:rW ap y):y=ap:=by
 rcases h with h|⟨h,_⟩
 ·exact h
 ·exact absurd h (by decide)
theorem cK{A B:Nat→Prop}{x y:V}{cx cy:List Value}{w:World}(hs:same x y=true)(hv:ah x≤1000000000)(hx:ag A w x cx)(hy:ag B w y cy):
  Does TP 31 [.agg cx.toArray,.agg cy.toArray] w fun r w'=>r= .bool true∧Ext w w':=by
 have h:=ba hv hx hy
 rw[hs]at h;exact h
theorem eB{A B:Nat→Prop}{x y:V}{cx cy:List Value}{w:World}(hs:same x y=false)(hv:ah x≤1000000000)(hx:ag A w x cx)(hy:ag B w y cy):
  Does TP 31 [.agg cx.toArray,.agg cy.toArray] w fun r w'=>r= .bool false∧Ext w w':=by
 have h:=ba hv hx hy
 rw[hs]at h;exact h
theorem Own.cellAt{B e n g c i:Nat}{w:World}{cs vs ds:List Value}(h:Own B e 6 w (.slice (some ⟨g,0,none⟩) n c) n (cs.take (i * 6)++vs++ds))(hn:0<n)(hi:i * 6≤cs.length):At w g (0+i * 6) vs:=by
 have h1:=(h.at0 hn).1
 rw[List.append_assoc]at h1
 have h2:=h1.mid
 rw[List.length_take,Nat.min_eq_left hi]at h2
 exact h2
mutual
theorem eY:∀x:V,ah x≤bv x
 | .mk k n t ks o d=>by
  have:=cH ks
  have:=cH d
  rw[ah,bv];omega
theorem cH:∀l:List V,ad l≤au l
 |[]=>by rw[ad];omega
 |x::r=>by
  have:=eY x
  have:=cH r
  rw[ad,au];omega
end
theorem bt.vol{v d y:V}(h:bt v d y):bv y≤bv v:=by
 rcases h with rfl|⟨rfl,_⟩|⟨_,s,h1,_,rfl⟩
 ·omega
 ·exact jU v
 ·obtain⟨k,n,t,ks,o,d'⟩:=v
  simp only[V.kids]at h1
  subst h1
  rw[show LL.bv (.mk k n t [y] o d')=64+t.length+au [y]+au d' from by rw[LL.bv],au];omega
theorem bt.wt{v d y:V}(h:bt v d y)(hv:cz v):Wt y:=by
 rcases h with rfl|⟨rfl,_⟩|⟨h1,s,h2,_,rfl⟩
 ·exact hv.1
 ·exact eQ
 ·exact hv.2.2 h1 _ (by rw[h2];simp)
theorem bt.nul{v d y:V}(h:bt v d y)(hv:cz v)(hk:y.kind=0):bt v d ap:=by
 rcases h with rfl|⟨rfl,h⟩|⟨h1,s,h2,h3,rfl⟩
 ·exact .inl (hv.2.1 hk).symm
 ·exact .inr (.inl ⟨rfl,h⟩)
 ·omega
theorem fE.all{fs:List (V×V)}:∀ {ys:List V},ys.length=fs.length→(∀j (h:j<fs.length),bt fs[j].1 fs[j].2 (aq ys j))→(∀f∈fs,cz f.1)→fG ys∧au ys≤au (fs.map (·.1)):=by
 intro ys hl h hW
 refine⟨fG.of fun x hx=>?_,?_⟩
 ·obtain⟨j,hj,rfl⟩:=bV hx
  exact(h j (by omega)).wt (hW _ (List.getElem_mem _))
 ·clear hW
  induction fs generalizing ys with
  |nil=>rw[List.eq_nil_of_length_eq_zero hl];simp
  |cons f r ih=>
   match ys,hl with
   |y::s,hl=>
    have h0:=(h 0 (by simp)).vol
    have h1:=ih (ys:=s) (by simpa using hl) fun j hj=>h (j+1) (by simpa using hj)
    rw[List.map_cons,au,au]
    have:bv y≤bv f.1:=h0
    omega
theorem oM{A:Nat→Prop}{code:Nat}{fs:List (V×V)}{cells:List Value}{fb:Nat}{w:World}(hC:aN A w code fs cells)(hF:Fm w fb)(hA:∀b,A b→b≠fb)(hl:fs.length≤1000)(h0:0<fs.length)(hv:au (fs.map (·.1))≤999999000)(hcode:code<18446744073709551616)(hW:∀f∈fs,cz f.1):
  Does TP 9 [.agg cells.toArray,.pointer (some ⟨fb,0,none⟩)] w fun r w'=>∃ks bs,ks.length≤fs.length∧(∀j (h:j<fs.length),bt fs[j].1 fs[j].2 (aq ks j))∧Enc (.mk 21 0 [] ks 0 [uV code]) bs∧Own w.heap.size 5 1 w' r bs.length (bc bs)∧Fm w' fb∧Evo (fun k=>k≠fb) w w':=by
 have nfb:=hF.lt
 replace hC:=(hC.lowW (B:=fun b=>A b∧b<w.heap.size∧b≠fb) fun b hb h=>⟨h,hb,hA b h⟩)
 obtain⟨p,c,rfl⟩:=hC.open
 refine do1 Tryz.func9 ?_
 have he:Evo (fun b=>b<w.heap.size∧b≠fb) w w:=Evo.refl w
 refine jA 2 rfl ?_
 have hs1:=he.size
 refine bx rfl ?_
 rintro _ w1 ⟨rfl,hb1,e1⟩
 have nx1:=hb1.lt
 have ns1:=e1.size
 refine jD 4 rfl<|la rfl hb1 ?_
 replace hC:=hC.mono e1
 refine cl rfl (g7 hC hl) ?_
 rintro v2 w2 ⟨sv,sd,cs,rfl,hO,hV,hD,e2⟩
 obtain⟨q2,c2,hq2,_,q02⟩:=hO.form
 subst hq2
 obtain⟨g,q12,ng1,ng2,_⟩:=q02 h0
 subst q12
 have hZD:=hD.weakW (l:=[uV code]) (B:=fun b=>w.heap.size≤b∧b≠g∧b<w2.heap.size) (fun b hb h=>⟨Nat.le_trans (by omega) h.1,fun e=>h.2 (by rw[e];rfl),hb⟩)
 obtain⟨pd,cd,qsd⟩:∃p c,sd= .slice p 1 c:=(by {obtain⟨p,c,cells,hx1,_⟩:=hD;exact⟨p,c,hx1⟩})
 subst qsd
 have hZO:=hO.low (B':=w.heap.size) (by omega)
 have hZV:=hV.weaken (B:=fun b=>A b∧b<w.heap.size∧b≠fb) (fun b h=>h.1)
 have ns2:=e2.size
 replace he:=(he.then e1).then e2
 have hs3:=he.size
 replace hb1:=hb1.mono e2
 have hx3b1:=hb1.lt
 refine al ?_
 rintro _ w3 ⟨rfl,hb3,e3⟩
 have nx3:=hb3.lt
 have ns3:=e3.size
 refine WL.l0 (lsw rfl rfl hb3) ?_
 rintro _ w4 ⟨hb3,e4,hz4⟩
 have ns4:=e4.size
 refine jD 5 rfl ?_
 replace hb1:=hb1.mono (e3.then e4)
 refine ld rfl hb1 rfl<|jD 4 rfl ?_
 obtain⟨N1,eN1⟩:∃M,M=w4.heap.size:=⟨_,rfl⟩
 replace hC:=(hC.mono e2).mono (e3.then e4)
 replace hF:=((hF.mono e1).mono e2).mono (e3.then e4)
 replace hZD:=hZD.mono (e3.then e4)
 replace hZO:=hZO.mono (e3.then e4)
 replace hZV:=hZV.mono (e3.then e4)
 replace he:=he.then (e3.then e4)
 refine WC.loop2 (ι:=Nat) [(1,_),(4,_),(5,_),(11,_),(12,_)] (fun i=>[(13,.int .i64 (i:Int))]) (fun i wi=>(∃ys cs,Own w.heap.size 87 6 wi (.slice (some ⟨g,0,none⟩) fs.length c2) fs.length cs∧aa (fun b=>A b∧b<w.heap.size∧b≠fb) wi ys cs∧fE fs ys i)∧Fm wi fb∧i≤fs.length∧Evo (fun b=>b<N1∧b≠g∧b≠fb) w4 wi) (fun i=>fs.length-i) 0 sb sb (⟨⟨_,_,hZO,hZV,fE.zero fs⟩,hF,Nat.zero_le _,Evo.refl _⟩) ?_
 intro i wi1 hh;obtain⟨⟨ys,cs,hO,hV,qI⟩,hF,ni,hE⟩:=hh
 have nwi:=hE.size
 have qyl:=qI.1
 rcases Nat.lt_or_ge i fs.length with qi|qi
 replace hC:=hC.mono hE
 ·obtain⟨b,o,a0,a1,a2,a3,a4,a5,b0,b1,b2,b3,b4,b5,rfl,qA,hAt,hR1,hR2,qc⟩:=hC.idx qi
  have q1:=hR1.one
  have q12:[a0,a1,a2,a3,a4,a5,b0,b1,b2,b3,b4,b5].all (fun v=>v.oneCell')=true:=cY q1 hR2.one
  have qfl:=(qI.2 i qi).2 (Nat.le_refl _)
  have qmem:fs[i]∈fs:=List.getElem_mem qi
  have nvol:bv fs[i].1≤999999000:=Nat.le_trans (ie (List.mem_map_of_mem qmem)) hv
  have ncnt:=eY fs[i].1
  obtain⟨v,hv1⟩:∃v,v=fs[i].1:=⟨_,rfl⟩
  obtain⟨dv,hd1⟩:∃v,v=fs[i].2:=⟨_,rfl⟩
  rw[← hv1]at hR1 nvol ncnt qfl
  rw[← hd1]at hR2
  have qnx:=fun y=>fE.next (y:=y) qI qi
  rw[← hv1,← hd1]at qnx
  obtain⟨pre,cc,post,hcs,npre,hRy0⟩:=hV.get (i:=i) (by omega)
  obtain⟨x0,x1,x2,x3,x4,x5,rfl⟩:=hRy0.six
  rw[az (by omega),qfl]at hRy0
  have qat:=(hO.at0 h0).1
  rw[hcs]at qat
  have hcell:=qat.mid
  rw[npre]at hcell
  have qs1:=hRy0.one
  have ncs:=hO.length
  obtain⟨k,n,t,ks,oo,d⟩:=v
  obtain⟨dk,dn,dt,dks,doo,dd⟩:=dv
  obtain⟨pk,ck,pd,cd,hcx,_,_,_,_⟩:=hR1.openV
  simp only[List.cons.injEq,and_true]at hcx
  obtain⟨rfl,rfl,rfl,rfl,rfl,rfl⟩:=hcx
  obtain⟨pk2,ck2,pd2,cd2,hcx,_,_,_,_⟩:=hR2.openV
  simp only[List.cons.injEq,and_true]at hcx
  obtain⟨rfl,rfl,rfl,rfl,rfl,rfl⟩:=hcx
  rcases Decidable.em (k=0)with qk|qk
  ·refine jA 2 rfl<|lT rfl rfl<|jD 9 rfl<|ix rfl rfl rfl<|WL.q rfl (r_loadAgg Fo.h rfl (Ext.refl _) hAt (hn:=rfl)) ?_
   replace he:=he.then hE
   have hs5:=he.size
   replace hb1:=hb1.mono hE
   have hx5b1:=hb1.lt
   replace hb3:=hb3.mono hE
   have hx5b3:=hb3.lt
   refine al ?_
   rintro _ w5 ⟨rfl,hb5,e5⟩
   have nx5:=hb5.lt
   have ns5:=e5.size
   refine jC 1 rfl ?_
   refine WL.l0 (lsw rfl rfl hb5) ?_
   rintro _ w6 ⟨hb5,e6,hz6⟩
   have ns6:=e6.size
   refine jD 6 rfl<|ld rfl hb5 rfl<|WL.q rfl (r_cmp (r_neq rfl rfl) (bneF (qk)))<|jD 21 rfl ?_
   exact mv
  ·rcases Decidable.em (dk=0)with qd|qd
   ·refine jA 2 rfl<|lT rfl rfl<|jD 9 rfl<|ix rfl rfl rfl<|WL.q rfl (r_loadAgg Fo.h rfl (Ext.refl _) hAt (hn:=rfl)) ?_
    replace he:=he.then hE
    have hs5:=he.size
    replace hb1:=hb1.mono hE
    have hx5b1:=hb1.lt
    replace hb3:=hb3.mono hE
    have hx5b3:=hb3.lt
    refine al ?_
    rintro _ w5 ⟨rfl,hb5,e5⟩
    have nx5:=hb5.lt
    have ns5:=e5.size
    refine jC 1 rfl ?_
    refine WL.l0 (lsw rfl rfl hb5) ?_
    rintro _ w6 ⟨hb5,e6,hz6⟩
    have ns6:=e6.size
    refine jD 6 rfl<|ld rfl hb5 rfl<|WL.q rfl (r_cmp (r_neq rfl rfl) (bneT (qk)))<|jC 3 rfl<|LL.lg rfl rfl rfl hb5 rfl<|WL.qg rfl rfl rfl rfl (r_cmp (r_neq rfl rfl) (bneF (qd)))<|jD 16 rfl ?_
    exact mv
   ·rcases Bool.eq_false_or_eq_true (same (.mk k n t ks oo d) (.mk dk dn dt dks doo dd))with qs|qs
    rotate_left
    ·refine jA 2 rfl<|lT rfl rfl<|jD 9 rfl<|ix rfl rfl rfl<|WL.q rfl (r_loadAgg Fo.h rfl (Ext.refl _) hAt (hn:=rfl)) ?_
     replace he:=he.then hE
     have hs5:=he.size
     replace hb1:=hb1.mono hE
     have hx5b1:=hb1.lt
     replace hb3:=hb3.mono hE
     have hx5b3:=hb3.lt
     refine al ?_
     rintro _ w5 ⟨rfl,hb5,e5⟩
     have nx5:=hb5.lt
     have ns5:=e5.size
     refine jC 1 rfl ?_
     refine WL.l0 (lsw rfl rfl hb5) ?_
     rintro _ w6 ⟨hb5,e6,hz6⟩
     have ns6:=e6.size
     refine jD 6 rfl<|ld rfl hb5 rfl<|WL.q rfl (r_cmp (r_neq rfl rfl) (bneT (qk)))<|jC 3 rfl<|LL.lg rfl rfl rfl hb5 rfl<|WL.qg rfl rfl rfl rfl (r_cmp (r_neq rfl rfl) (bneT (qd)))<|jC 3 rfl<|WL.qg rfl rfl rfl rfl (r_loadAgg Fo.h rfl (Ext.refl _) (At.pre (c:=[_,_,_,_,_,_]) hb5.at) (hn:=rfl)) ?_
     refine jC 1 rfl<|WL.qg rfl rfl rfl rfl (r_loadAgg Fo.h rfl (Ext.refl _) (At.suf (c:=[_,_,_,_,_,_]) hb5.at) (hn:=rfl)) ?_
     replace hR1:=hR1.mono (e5.then e6)
     replace hR2:=hR2.mono (e5.then e6)
     refine WL.lg rfl rfl rfl rfl (l_do Fb.h rfl (eB qs (by omega) hR1 hR2)) ?_
     rintro v7 w7 ⟨rfl,e7⟩
     have ns7:=e7.size
     refine jD 9 rfl ?_
     replace hC:=(hC.mono (e5.then e6)).mono e7
     replace hF:=(hF.mono (e5.then e6)).mono e7
     replace hb1:=(hb1.mono (e5.then e6)).mono e7
     replace hZD:=((hZD.mono hE).mono (e5.then e6)).mono e7
     replace hb3:=(hb3.mono (e5.then e6)).mono e7
     replace hO:=(hO.mono (e5.then e6)).mono e7
     replace hV:=(hV.mono (e5.then e6)).mono e7
     replace hAt:=(hAt.mono (e5.then e6)).mono e7
     replace hR1:=hR1.mono e7
     replace hR2:=hR2.mono e7
     replace hcell:=(hcell.mono (e5.then e6)).mono e7
     replace hRy0:=(hRy0.mono (e5.then e6)).mono e7
     replace hb5:=hb5.mono e7
     refine WC.regionDL 11 (tt [0,1,2,3,4,5,6,7,8]++ff [9]++tt [10]++ff [11]) (Evo (fun b=>b≠fb) _) mixed (by kernel_rfl) (Evo.drew _) ?_
     have nd1w7:w7.drew.heap.size=w7.heap.size:=rfl
     refine jE 1 rfl<|dl rfl hb3 rfl<|jE 3 rfl<|dl rfl hb3 rfl<|jE 1 rfl ?_
     refine WD.q rfl (fun _ hS=>r_idx Fo.h rfl rfl rfl (by first|omega|(simp;done)|(simp;omega))) ?_
     refine WD.q rfl (fun _ hS=>r_loadAgg Fo.h rfl hS hcell (hn:=rfl)) ?_
     refine LL.cd rfl (cS (hRy0.mono (Ext.drew _)) (hF.mono (Ext.drew _)) (fun b h=>h.2.2)) ?_
     rintro v8 w8 ⟨y,y0,y1,y2,y3,y4,y5,rfl,qIn,hRn,hF,e8⟩
     have q1y:=hRn.one
     have ns8:=e8.size
     refine⟨((Evo.drew _).then e8),?_⟩
     refine WD.q rfl (fun _ hS=>r_idx Fo.h rfl rfl rfl (by first|omega|(simp;done)|(simp;omega))) ?_
     replace hO:=(hO.mono (Ext.drew _)).mono e8
     refine WD.l0L rfl rfl (bD Fo.h rfl rfl q1y rfl hO (by omega) qi) ?_
     rintro _ w9 ⟨hO,e9,hz9⟩
     have ns9:=e9.size
     refine WT.nil<|jA 1 rfl<|ai rfl rfl rfl<|jC 2 rfl ?_
     replace hF:=hF.mono e9
     replace hV:=((hV.mono (Ext.drew _)).mono e8).mono e9
     replace hRn:=hRn.mono e9
     exact⟨(i+1),sb,sb,⟨⟨_,_,hO,aa.set (by first|omega|(simp only[List.length_set];omega)) hV (hRn.weaken fun b h=>h.1),(qnx y qIn.put)⟩,hF,qi,((((((hE.then (e5.then e6)).then e7).then (Ext.drew _)).then e8).then e9))⟩,(by show fs.length-(i+1)<fs.length-i;omega)⟩
    ·refine jA 2 rfl<|lT rfl rfl<|jD 9 rfl<|ix rfl rfl rfl<|WL.q rfl (r_loadAgg Fo.h rfl (Ext.refl _) hAt (hn:=rfl)) ?_
     replace he:=he.then hE
     have hs5:=he.size
     replace hb1:=hb1.mono hE
     have hx5b1:=hb1.lt
     replace hb3:=hb3.mono hE
     have hx5b3:=hb3.lt
     refine al ?_
     rintro _ w5 ⟨rfl,hb5,e5⟩
     have nx5:=hb5.lt
     have ns5:=e5.size
     refine jC 1 rfl ?_
     refine WL.l0 (lsw rfl rfl hb5) ?_
     rintro _ w6 ⟨hb5,e6,hz6⟩
     have ns6:=e6.size
     refine jD 6 rfl<|ld rfl hb5 rfl<|WL.q rfl (r_cmp (r_neq rfl rfl) (bneT (qk)))<|jC 3 rfl<|LL.lg rfl rfl rfl hb5 rfl<|WL.qg rfl rfl rfl rfl (r_cmp (r_neq rfl rfl) (bneT (qd)))<|jC 3 rfl<|WL.qg rfl rfl rfl rfl (r_loadAgg Fo.h rfl (Ext.refl _) (At.pre (c:=[_,_,_,_,_,_]) hb5.at) (hn:=rfl)) ?_
     refine jC 1 rfl<|WL.qg rfl rfl rfl rfl (r_loadAgg Fo.h rfl (Ext.refl _) (At.suf (c:=[_,_,_,_,_,_]) hb5.at) (hn:=rfl)) ?_
     replace hR1:=hR1.mono (e5.then e6)
     replace hR2:=hR2.mono (e5.then e6)
     refine WL.lg rfl rfl rfl rfl (l_do Fb.h rfl (cK qs (by omega) hR1 hR2)) ?_
     rintro v7 w7 ⟨rfl,e7⟩
     have ns7:=e7.size
     refine jC 3 rfl ?_
     replace hF:=(hF.mono (e5.then e6)).mono e7
     refine WL.lg rfl rfl rfl rfl (l_do Fb.h rfl (cT (n:=2) hF (by omega) (by omega))) ?_
     rintro v8 w8 ⟨⟨ki,qki,rfl⟩,hF,e8⟩
     have ns8:=e8.size
     rcases Nat.eq_zero_or_pos ki with q|q
     ·refine WL.qg rfl rfl rfl rfl (r_cmp (r_eql rfl rfl) (beqT (by(omega)))) ?_
      refine jD 5 rfl ?_
      replace hb3:=((hb3.mono (e5.then e6)).mono e7).mono e8
      refine ld rfl hb3 rfl<|jC 1 rfl<|WL.q rfl (r_bld (cs:=[_,_,_,_,_,_]) Fo.h rfl rfl)<|ix rfl rfl rfl ?_
      replace hO:=((hO.mono (e5.then e6)).mono e7).mono e8
      replace hV:=((hV.mono (e5.then e6)).mono e7).mono e8
      refine WL.l0 ((have _q:=hV;bD Fo.h rfl rfl rfl rfl hO (by omega) qi)) ?_
      rintro _ w9 ⟨hO,e9,hz9⟩
      have hZV:=aa.set (i:=i) (y:=ap) (by omega) (hV.mono e9) cU
      have hZc:=hO.cellAt h0 (by omega)
      have ns9:=e9.size
      refine WL.nil ?_
      replace hC:=(((hC.mono (e5.then e6)).mono e7).mono e8).mono e9
      replace hF:=hF.mono e9
      replace hb1:=(((hb1.mono (e5.then e6)).mono e7).mono e8).mono e9
      replace hZD:=((((hZD.mono hE).mono (e5.then e6)).mono e7).mono e8).mono e9
      replace hb3:=hb3.mono e9
      replace hV:=hV.mono e9
      replace hAt:=(((hAt.mono (e5.then e6)).mono e7).mono e8).mono e9
      replace hR1:=((hR1.mono e7).mono e8).mono e9
      replace hR2:=((hR2.mono e7).mono e8).mono e9
      replace hRy0:=(((hRy0.mono (e5.then e6)).mono e7).mono e8).mono e9
      replace hb5:=((hb5.mono e7).mono e8).mono e9
      refine WC.regionDL 11 (tt [0,1,2,3,4,5,6,7,8]++ff [9]++tt [10]++ff [11]) (Evo (fun b=>b≠fb) _) mixed (by kernel_rfl) (Evo.drew _) ?_
      have nd1w9:w9.drew.heap.size=w9.heap.size:=rfl
      refine jE 1 rfl<|dl rfl hb3 rfl<|jE 3 rfl<|dl rfl hb3 rfl<|jE 1 rfl ?_
      refine WD.q rfl (fun _ hS=>r_idx Fo.h rfl rfl rfl (by first|omega|(simp;done)|(simp;omega))) ?_
      refine WD.q rfl (fun _ hS=>r_loadAgg Fo.h rfl hS hZc (hn:=rfl)) ?_
      refine LL.cd rfl (cS (cU (A:=fun b=>A b∧b<w.heap.size∧b≠fb)) (hF.mono (Ext.drew _)) (fun b h=>h.2.2)) ?_
      rintro v10 w10 ⟨y,y0,y1,y2,y3,y4,y5,rfl,qIn,hRn,hF,e10⟩
      have q1y:=hRn.one
      have ns10:=e10.size
      refine⟨((Evo.drew _).then e10),?_⟩
      refine WD.q rfl (fun _ hS=>r_idx Fo.h rfl rfl rfl (by first|omega|(simp;done)|(simp;omega))) ?_
      replace hO:=(hO.mono (Ext.drew _)).mono e10
      refine WD.l0L rfl rfl (bD Fo.h rfl rfl q1y rfl hO (by omega) qi) ?_
      rintro _ w11 ⟨hO,e11,hz11⟩
      have ns11:=e11.size
      refine WT.nil<|jA 1 rfl<|ai rfl rfl rfl<|jC 2 rfl ?_
      replace hF:=hF.mono e11
      replace hZV:=((hZV.mono (Ext.drew _)).mono e10).mono e11
      replace hRn:=hRn.mono e11
      exact⟨(i+1),sb,sb,⟨⟨_,_,hO,aa.set (by first|omega|(simp only[List.length_set];omega)) hZV (hRn.weaken fun b h=>h.1),(by rw[List.set_set,qIn.null];exact qnx ap (.inr (.inl ⟨rfl,.inr ⟨qd,qs⟩⟩)))⟩,hF,qi,((((((((hE.then (e5.then e6)).then e7).then e8).then e9).then (Ext.drew _)).then e10).then e11))⟩,(by show fs.length-(i+1)<fs.length-i;omega)⟩
     ·refine WL.qg rfl rfl rfl rfl (r_cmp (r_eql rfl rfl) (beqF (by(omega)))) ?_
      refine jD 4 rfl ?_
      replace hC:=((hC.mono (e5.then e6)).mono e7).mono e8
      replace hb1:=((hb1.mono (e5.then e6)).mono e7).mono e8
      replace hZD:=(((hZD.mono hE).mono (e5.then e6)).mono e7).mono e8
      replace hb3:=((hb3.mono (e5.then e6)).mono e7).mono e8
      replace hO:=((hO.mono (e5.then e6)).mono e7).mono e8
      replace hV:=((hV.mono (e5.then e6)).mono e7).mono e8
      replace hAt:=((hAt.mono (e5.then e6)).mono e7).mono e8
      replace hR1:=(hR1.mono e7).mono e8
      replace hR2:=(hR2.mono e7).mono e8
      replace hcell:=((hcell.mono (e5.then e6)).mono e7).mono e8
      replace hRy0:=((hRy0.mono (e5.then e6)).mono e7).mono e8
      replace hb5:=(hb5.mono e7).mono e8
      refine WC.regionDL 11 (tt [0,1,2,3,4,5,6,7,8]++ff [9]++tt [10]++ff [11]) (Evo (fun b=>b≠fb) _) mixed (by kernel_rfl) (Evo.drew _) ?_
      have nd1w8:w8.drew.heap.size=w8.heap.size:=rfl
      refine jE 1 rfl<|dl rfl hb3 rfl<|jE 3 rfl<|dl rfl hb3 rfl<|jE 1 rfl ?_
      refine WD.q rfl (fun _ hS=>r_idx Fo.h rfl rfl rfl (by first|omega|(simp;done)|(simp;omega))) ?_
      refine WD.q rfl (fun _ hS=>r_loadAgg Fo.h rfl hS hcell (hn:=rfl)) ?_
      refine LL.cd rfl (cS (hRy0.mono (Ext.drew _)) (hF.mono (Ext.drew _)) (fun b h=>h.2.2)) ?_
      rintro v9 w9 ⟨y,y0,y1,y2,y3,y4,y5,rfl,qIn,hRn,hF,e9⟩
      have q1y:=hRn.one
      have ns9:=e9.size
      refine⟨((Evo.drew _).then e9),?_⟩
      refine WD.q rfl (fun _ hS=>r_idx Fo.h rfl rfl rfl (by first|omega|(simp;done)|(simp;omega))) ?_
      replace hO:=(hO.mono (Ext.drew _)).mono e9
      refine WD.l0L rfl rfl (bD Fo.h rfl rfl q1y rfl hO (by omega) qi) ?_
      rintro _ w10 ⟨hO,e10,hz10⟩
      have ns10:=e10.size
      refine WT.nil<|jA 1 rfl<|ai rfl rfl rfl<|jC 2 rfl ?_
      replace hF:=hF.mono e10
      replace hV:=((hV.mono (Ext.drew _)).mono e9).mono e10
      replace hRn:=hRn.mono e10
      exact⟨(i+1),sb,sb,⟨⟨_,_,hO,aa.set (by first|omega|(simp only[List.length_set];omega)) hV (hRn.weaken fun b h=>h.1),(qnx y qIn.put)⟩,hF,qi,(((((((hE.then (e5.then e6)).then e7).then e8).then (Ext.drew _)).then e9).then e10))⟩,(by show fs.length-(i+1)<fs.length-i;omega)⟩
 ·have hil:i=fs.length:=by omega
  obtain⟨qat,qgl2,_,nc2⟩:=hO.at0 h0
  refine jA 2 rfl<|lF rfl rfl<|jD 3 rfl<|WC.exit<|jA 2 rfl ?_
  obtain⟨N2,eN2⟩:∃M,M=wi1.heap.size:=⟨_,rfl⟩
  replace hC:=hC.mono hE
  replace hb1:=hb1.mono hE
  replace hZD:=hZD.mono hE
  replace hb3:=hb3.mono hE
  replace he:=he.then hE
  refine WC.loop2 (ι:=Nat) [(1,_),(4,_),(5,_),(11,_),(12,_),(13,_)] (fun m=>[]) (fun m wi=>Blk wi w2.heap.size [.int .i64 21,.int .u64 0,str [],.slice (some ⟨g,0,none⟩) m c2,.int .i64 0,.slice pd 1 cd]∧m≤fs.length∧(∀j (h:j<fs.length),m≤j→bt fs[j].1 fs[j].2 ap)∧Fm wi fb∧Evo (fun b=>b<N2∧b≠w2.heap.size∧b≠fb) wi1 wi) (fun m=>m) fs.length sb .nil (⟨hb3,Nat.le_refl _,fun j h h2=>absurd h (by omega),hF,Evo.refl _⟩) ?_
  intro m wi2 hh;obtain⟨hb3,nm,qN,hF,hE⟩:=hh
  have nwi2:=hE.size
  have qst:ys.length=fs.length∧∀j (h:j<fs.length),bt fs[j].1 fs[j].2 (aq ys j):=⟨qI.1,fun j h=>(qI.2 j h).1 (by omega)⟩
  have qlen:(ys.take m).length=m:=by rw[List.length_take,qst.1];omega
  have qmc:m≤c2:=by omega
  replace hV:=hV.mono hE
  have qRK:aa (fun b=>b≠fb) wi2 (ys.take m) (cs.take (m * 6)):=(hV.take m).weaken fun b h=>h.2.2
  replace qat:=qat.mono hE
  have qK:aD (fun b=>b≠fb) wi2 (ys.take m).length (.slice (some ⟨g,0,none⟩) m c2) (aa (fun b=>b≠fb) wi2 (ys.take m)):=⟨_,c2,_,by rw[qlen],by omega,qRK,.inr ⟨g,0,rfl,by omega,qat.takeL _⟩⟩
  replace hZD:=hZD.mono hE
  have hfin:ag (fun b=>b≠fb) wi2 (.mk 21 0 [] (ys.take m) 0 [uV code]) [.int .i64 21,.int .u64 0,str [],.slice (some ⟨g,0,none⟩) m c2,.int .i64 0,.slice pd 1 cd]:=by rw[ag];exact⟨_,_,rfl,qK,hZD.low (n:=1) (l:=[uV code]) fun b h=>by have:=h.1;show b≠fb;omega⟩
  have qput:∀j (h:j<fs.length),bt fs[j].1 fs[j].2 (aq (ys.take m) j):=by
   intro j h
   rw[mD]
   split
   ·exact qst.2 j h
   ·exact qN j h (by omega)
  have qall:=fE.all qst.1 qst.2 hW
  have qWt:Wt (.mk 21 0 [] (ys.take m) 0 [uV code]):=by
   rw[Wt]
   exact⟨by omega,by omega,by omega,dJ (by omega) (by omega) (by omega) (by omega) (by omega),by omega,.inr ⟨code,hcode,rfl⟩,fun _=>fG.of fun x hx=>qall.1.mem x (List.mem_of_mem_take hx),fun h=>by omega⟩
  have nvl:=aL ys m
  have nvol:bv (.mk 21 0 [] (ys.take m) 0 [uV code])≤1000000000:=by
   have e1:bv (.mk 21 0 [] (ys.take m) 0 [uV code])=64+([]:List UInt8).length+au (ys.take m)+au [uV code]:=by rw[bv]
   have e2:au [uV code]=64:=by simp[au,bv,uV]
   rw[e1,e2,List.length_nil]
   omega
  rcases m with _|m
  ·refine jA 4 rfl<|ld rfl hb3 rfl<|jC 1 rfl ?_
   refine WL.q rfl (r_cmp (r_gtr rfl rfl) (decide_eq_false (by(omega)))) ?_
   refine jD 19 rfl<|WC.exit<|jA 2 rfl<|la rfl hb3<|jC 1 rfl ?_
   refine cl rfl (mZ _ _ _ _ hfin hF nvol qWt) ?_
   rintro v5 w5 ⟨bs,qE,hP,hF,e5⟩
   have ns5:=e5.size
   refine jC 2 rfl<|WC.ret ?_
   replace he:=(he.then hE).then e5
   exact fin1 rfl ⟨ys.take 0,bs,by omega,qput,qE,hP.low (by omega),hF,he.weaken fun b hb h=>⟨hb,h⟩⟩
  ·obtain⟨pre,cc,post,hcs,npre,hRy0⟩:=hV.get (i:=m) (by omega)
   rw[hcs]at qat
   have hcell:=qat.mid
   rw[npre]at hcell
   rw[az (by omega)]at hRy0
   rcases hfm:aq ys m with⟨k,n,t,ks,oo,d⟩
   rw[hfm]at hRy0
   obtain⟨pk,ck,pd2,cd2,rfl,_,_,_,_⟩:=hRy0.openV
   rcases Decidable.em (k=0)with qk|qk
   ·refine jA 4 rfl<|ld rfl hb3 rfl<|jC 1 rfl ?_
    refine WL.q rfl (r_cmp (r_gtr rfl rfl) (decide_eq_true (by(omega)))) ?_
    refine jC 2 rfl<|LL.lg rfl rfl rfl hb3 rfl<|jC 1 rfl<|LL.lg rfl rfl rfl hb3 rfl<|jC 1 rfl ?_
    refine WL.qg rfl rfl rfl rfl (r_subi (c:=(m:Int)) rfl rfl (by omega) (by omega) (by omega)) ?_
    refine WL.qg rfl rfl rfl rfl (r_idx Fo.h rfl rfl rfl (by first|omega|(simp;done)|(simp;omega))) ?_
    refine jC 1 rfl ?_
    refine WL.qg rfl rfl rfl rfl (r_load Fb.h rfl (Ext.refl _) (hcell.get (j:=0) rfl)) ?_
    refine WL.qg rfl rfl rfl rfl (r_cmp (r_eql rfl rfl) (beqT (qk)))<|jC 3 rfl ?_
    refine WL.lg rfl rfl rfl rfl (l_do Fb.h rfl (cT (n:=4) hF (by omega) (by omega))) ?_
    rintro v5 w5 ⟨⟨ki,qki,rfl⟩,hF,e5⟩
    have ns5:=e5.size
    rcases Nat.eq_zero_or_pos ki with q|q
    ·refine WL.qg rfl rfl rfl rfl (r_cmp (r_gtr rfl rfl) (decide_eq_false (by(omega)))) ?_
     refine jD 3 rfl<|WC.exit<|jA 2 rfl ?_
     replace hb3:=hb3.mono e5
     refine la rfl hb3<|jC 1 rfl ?_
     replace hfin:=hfin.mono e5
     refine cl rfl (mZ _ _ _ _ hfin hF nvol qWt) ?_
     rintro v6 w6 ⟨bs,qE,hP,hF,e6⟩
     have ns6:=e6.size
     refine jC 2 rfl<|WC.ret ?_
     replace he:=((he.then hE).then e5).then e6
     exact lO
    ·refine WL.qg rfl rfl rfl rfl (r_cmp (r_gtr rfl rfl) (decide_eq_true (by(omega)))) ?_
     refine jD 4 rfl<|jA 3 rfl ?_
     replace hb3:=hb3.mono e5
     refine ld rfl hb3 rfl<|jC 1 rfl<|ld rfl hb3 rfl<|jC 1 rfl ?_
     refine WL.q rfl (r_subi (c:=(m:Int)) rfl rfl (by omega) (by omega) (by omega)) ?_
     refine WL.q rfl (r_sliceh Fo.h rfl rfl rfl (by first|omega|(simp;done)|(simp;omega))) ?_
     refine jC 1 rfl ?_
     refine WL.l0 (lst rfl rfl hb3) ?_
     rintro _ w6 ⟨hb3,e6,hz6⟩
     have ns6:=e6.size
     refine WL.nil ?_
     replace hF:=hF.mono e6
     exact⟨m,sb,.nil,⟨hb3,by omega,fun j h h2=>(if e:j=m then(by subst e;exact(qst.2 _ h).nul (hW _ (List.getElem_mem h)) (by rw[hfm];exact qk))else qN j h (by omega)),hF,(((hE.then e5).then e6))⟩,(by show m<m+1;omega)⟩
   ·refine jA 4 rfl<|ld rfl hb3 rfl<|jC 1 rfl ?_
    refine WL.q rfl (r_cmp (r_gtr rfl rfl) (decide_eq_true (by(omega)))) ?_
    refine jC 2 rfl<|LL.lg rfl rfl rfl hb3 rfl<|jC 1 rfl<|LL.lg rfl rfl rfl hb3 rfl<|jC 1 rfl ?_
    refine WL.qg rfl rfl rfl rfl (r_subi (c:=(m:Int)) rfl rfl (by omega) (by omega) (by omega)) ?_
    refine WL.qg rfl rfl rfl rfl (r_idx Fo.h rfl rfl rfl (by first|omega|(simp;done)|(simp;omega))) ?_
    refine jC 1 rfl ?_
    refine WL.qg rfl rfl rfl rfl (r_load Fb.h rfl (Ext.refl _) (hcell.get (j:=0) rfl)) ?_
    refine WL.qg rfl rfl rfl rfl (r_cmp (r_eql rfl rfl) (beqF (qk)))<|jD 8 rfl<|WC.exit<|jA 2 rfl<|la rfl hb3<|jC 1 rfl ?_
    refine cl rfl (mZ _ _ _ _ hfin hF nvol qWt) ?_
    rintro v5 w5 ⟨bs,qE,hP,hF,e5⟩
    have ns5:=e5.size
    refine jC 2 rfl<|WC.ret ?_
    replace he:=(he.then hE).then e5
    exact lO
end Go.Proofs.LL
