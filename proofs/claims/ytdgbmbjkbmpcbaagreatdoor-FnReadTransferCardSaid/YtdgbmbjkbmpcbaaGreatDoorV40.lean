/- Contracts of functions and own laws. Conditions: those that each theorem states. -/
import Derived.Test.YtdgbmbjkbmpcbaaGreatDoorV39
set_option linter.all false
set_option autoImplicit true
set_option relaxedAutoImplicit true
set_option maxRecDepth 20000
namespace Go.Proofs.LL
open Go Go.Proofs Go.RowKit
set_option maxHeartbeats 4000000
attribute [local irreducible] ar WL WC cq WT WX
theorem AI{A:Prop}(h:A:=by
 rintro _ w3 ⟨hm1,e3⟩
 have:=e3.s
 refine⟨ch,?_⟩
 refine Hy rfl (aq rfl)<|WX.alt ?_ ?_
 ·refine WX.rd rfl rfl (gy (b:=m) (cz Fo.h Fo.h eo rfl rfl Xr hm1) (by first|exact hm|exact hm')) ⟨(((Vd.t e1).t e2).t e3),?_⟩
  refine cx rfl rfl (cJ (k:=1) (by omega) (by omega)) ?_
  rintro v4 w4 ⟨hOb,e4⟩
  obtain⟨q0,c0,hq0,_,_⟩:=hOb.form
  subst hq0
  have hZ1:=hOb.toB (A:=fun b=>w3.heap.size≤b∧b<w4.heap.size) (fun b hb hs=>⟨hb,hs⟩)
  have ns4:=e4.s
  refine⟨ch,?_⟩
  refine Hy rfl (az (cs:=[_,_]) Fo.h rfl rfl)<|WX.l rfl rfl (cZ (vs:=[_]) Fo.h rfl rfl rfl rfl rfl) ?_
  rintro v5 w5 ⟨rfl,hOl,e5⟩
  have hbl5:=hOl.lt _ rfl
  have ns5:=e5.s
  refine⟨ch,?_⟩
  refine WX.l rfl rfl (bz Fo.h rfl rfl hOl (Src.at Fb.h ((((hbO.m Xd).m ((e1.t e2).t e3)).m e4).m e5) rfl rfl) (by omega) (by simp only[maxLen];omega) (by omega)) ?_
  rintro v6 w6 ⟨hO,e6⟩
  have ns6:=e6.s
  refine⟨ch,?_⟩
  refine Hy rfl (ap rfl)<|WX.nil ?_
  replace hT:=((((hT.m Xd).m ((e1.t e2).t e3)).m e4).m e5).m e6
  replace hI:=((((hI.m Xd).m ((e1.t e2).t e3)).m e4).m e5).m e6
  replace hZ1:=(hZ1.m e5).m e6
  exact(h2 _ _ ⟨_,_,(by omega),hO,bg.append (bg.one (p:=(m,aI n 1)) (hZ1.k fun b hb h=>⟨by omega,hb⟩)) (bg.one (p:=(u,aI n s)) (hI.k fun b hb h=>⟨h.1,hb⟩)),rfl,hT.evo⟩).sub sb
 ·refine cx rfl rfl (cJ (k:=1) (by omega) (by omega)) ?_
  rintro v4 w4 ⟨hOb,e4⟩
  obtain⟨q0,c0,hq0,_,_⟩:=hOb.form
  subst hq0
  have hZ1:=hOb.toB (A:=fun b=>w3.heap.size≤b∧b<w4.heap.size) (fun b hb hs=>⟨hb,hs⟩)
  have ns4:=e4.s
  refine⟨ch,?_⟩
  replace hm1:=hm1.m e4
  refine WX.rd rfl rfl (gy (b:=m) (cz Fo.h Fo.h eo rfl rfl Xr hm1) (by first|exact hm|exact hm')) ⟨((((Vd.t e1).t e2).t e3).t e4),?_⟩
  refine Hy rfl (az (cs:=[_,_]) Fo.h rfl rfl)<|WX.l rfl rfl (cZ (vs:=[_]) Fo.h rfl rfl rfl rfl rfl) ?_
  rintro v5 w5 ⟨rfl,hOl,e5⟩
  have hbl5:=hOl.lt _ rfl
  have ns5:=e5.s
  refine⟨ch,?_⟩
  refine WX.l rfl rfl (bz Fo.h rfl rfl hOl (Src.at Fb.h ((((hbO.m Xd).m ((e1.t e2).t e3)).m e4).m e5) rfl rfl) (by omega) (by simp only[maxLen];omega) (by omega)) ?_
  rintro v6 w6 ⟨hO,e6⟩
  have ns6:=e6.s
  refine⟨ch,?_⟩
  refine Hy rfl (ap rfl)<|WX.nil ?_
  replace hT:=((((hT.m Xd).m ((e1.t e2).t e3)).m e4).m e5).m e6
  replace hI:=((((hI.m Xd).m ((e1.t e2).t e3)).m e4).m e5).m e6
  replace hZ1:=(hZ1.m e5).m e6
  exact(h2 _ _ ⟨_,_,(by omega),hO,bg.append (bg.one (p:=(m,aI n 1)) (hZ1.k fun b hb h=>⟨by omega,hb⟩)) (bg.one (p:=(u,aI n s)) (hI.k fun b hb h=>⟨h.1,hb⟩)),rfl,hT.evo⟩).sub sb):A:=h
theorem mb{A:Prop}(h:A:=by
 exact(h2 _ _ ⟨_,_,(by omega),hO,bg.append (bg.one (p:=(m,aI n 1)) (hZ1.k fun b hb h=>⟨by omega,hb⟩)) (bg.one (p:=(u,aI n s)) (hI.k fun b hb h=>⟨h.1,hb⟩)),rfl,hT.evo⟩).sub sb):A:=h
theorem AJ{A:Prop}(h:A:=by
 intro i wj hh;obtain⟨B,cs,nB,hO,hV,oc,hE⟩:=hh
 have nB':w.heap.size≤B:=by omega
 refine jA 3 rfl<|Hq (ae (ak rfl rfl) (bk (by(omega))))<|jD 3 rfl<|jA 5 rfl<|WC.ret ?_
 replace he:=he.t hE
 exact aw rfl ⟨⟨_,⟨fun p hp=>by rcases List.mem_cons.1 hp with e|hp;exact e▸hI1;exact List.mem_singleton.1 hp▸hPI,by simp,by simp,hfull _ (by simp)⟩,ei.own hO rfl (hV.k fun b h=>h.1) (fun b hb=>Nat.le_trans nB' hb)⟩,he⟩):A:=h
theorem vH{A:Prop}(h:A:=by
 replace hI:=hI.m e2
 replace he:=he.t e2
 exact aw rfl ⟨⟨_,⟨fun p hp=>by rw[List.mem_singleton.1 hp];exact hPI,by simp,by simp,hfull _ (by simp)⟩,ei.at1 (iN hb2) hI (by show w.heap.size≤_;omega)⟩,he⟩):A:=h
theorem bT.nil:bT A w (.slice none 0 0) []:=⟨none,0,rfl,Nat.le_refl _,fun h=>absurd rfl h⟩
def ei(A:Nat→Prop)(w:World)(ps:List ie)(v:Value):Prop:=
 ∃p c cells,v= .slice p ps.length c∧ps.length≤c∧bg A w ps cells∧(ps=[]∨∃b o,p=some ⟨b,o,none⟩∧A b∧At w b o cells)
theorem ei.m(h:ei A w ps v)(e:am B w w')(hAB:∀b,b<w.heap.size→A b→B b:=by(intro b hb1 hb2;first|exact trivial|exact hb2|((try dsimp only[Nb]at hb2⊢);omega))):ei A w' ps v:=by
 obtain⟨p,c,cells,h1,h2,h3,h4⟩:=h
 exact⟨p,c,cells,h1,h2,h3.m' e hAB,h4.imp id fun⟨b,o,e1,e2,e3⟩=>⟨b,o,e1,e2,e3.growP e hAB e2⟩⟩
theorem ei.low{B:Nat→Prop}(h:ei A w ps v)(hAB:∀b,A b→B b):ei B w ps v:=by
 obtain⟨p,c,cells,h1,h2,h3,h4⟩:=h
 exact⟨p,c,cells,h1,h2,h3.k hAB,h4.imp id fun⟨b,o,e1,e2,e3⟩=>⟨b,o,e1,hAB b e2,e3⟩⟩
theorem A1.toX(h:A1 N0 w ps v):ei (fun b=>N0≤b) w ps v:=by
 obtain⟨cs,hO,hV⟩:=h
 obtain⟨p,c,rfl,hc,hf⟩:=hO.form
 refine⟨p,c,cs,rfl,hc,hV.k fun b h=>h.1,?_⟩
 rcases Nat.eq_zero_or_pos ps.length with h0|h0
 ·exact .inl (List.eq_nil_of_length_eq_zero h0)
 ·obtain⟨b,rfl,h1,_,h2⟩:=hf h0
  exact .inr ⟨b,0,rfl,h1,h2⟩
theorem ei.own{ps:List ie}(hO:aT B 152 2 w v n cs)(hn:ps.length=n)(hV:bg A w ps cs)(hA:∀b,B≤b→A b):ei A w ps v:=by
 subst hn
 obtain⟨p,c,rfl,hc,hf⟩:=hO.form
 refine⟨p,c,cs,rfl,hc,hV,?_⟩
 rcases Nat.eq_zero_or_pos ps.length with h0|h0
 ·exact .inl (List.eq_nil_of_length_eq_zero h0)
 ·obtain⟨b,rfl,h1,_,h2⟩:=hf h0
  exact .inr ⟨b,0,rfl,hA b h1,h2⟩
theorem ei.at1{c:Int}{dv:Value}(h:At w b 0 [.int .i64 c,dv])(hI:bT A w dv l)(hA:A b):ei A w [(c,l)] (.slice (some ⟨b,0,none⟩) 1 1):=
 ⟨_,_,_,rfl,Nat.le_refl _,bg.one (p:=(c,l)) hI,.inr ⟨b,0,rfl,hA,h⟩⟩
def mS(x:V)(p:ie):Prop:=∃u:UInt8,p.1=(u.toNat:Int)∧Pc x u p.2
structure wS (x:V) (ps:List ie):Prop where
 all:∀p∈ps,mS x p
 len:ps.length≤4
 ne:ps≠[]
 full:dp x.kind→∃p∈ps,p.1=gJ x.kind
theorem kS{k s:Int}(h:gJ k=s):ah TP 86 [.int .i64 k] w fun r w'=>r= .int .i64 s∧ay w w':=h▸su
def iZ(N0:Nat)(x:V)(r:Value)(w':World):Prop:=∃ps,wS x ps∧ei (fun b=>N0≤b) w' ps r
theorem rg{N0 b n s:Nat}{k:Int}{u:UInt8}{cs:List Value}{v2 v4:Value}(hρ:jZ [(1,.pointer (some ⟨b,0,none⟩)),(2,v2),(3,.int .u64 (n:Int)),(4,v4)] ρ)(hb1:aH w b (.int .i64 k::cs))(hc:gJ k=(u.toNat:Int))(hs:vU k=(s:Int))(hs8:s≤8)(hn:n<18446744073709551616)(hN:N0≤w.heap.size)
  (h2:∀i w',(∃dv,aH w' i [.int .i64 (u.toNat:Int),dv]∧dv.oneCell'=true∧bT (fun b=>N0≤b) w' dv (aI n s)∧ay w w')→WC TP Tryz.f89.ntmps [] y [(5,.pointer (some ⟨i,0,none⟩)),(1,.pointer (some ⟨b,0,none⟩)),(2,v2),(3,.int .u64 (n:Int)),(4,v4)] w' X):WC TP Tryz.f89.ntmps [] (cg Tryz.f89 2) ρ w (andThen TP Tryz.f89.ntmps [] y X):=by
 refine WC.sub hρ ?_
 have hT:i7 (fun _=>True) w w:=⟨ay.refl _⟩
 refine WC.regionT (.q 0 (.q 1 (.q 3 (.q 4 (.q 5 (.alt (.l 2 (.alt (.l 6 (.alt (.l 7 (.q 8 (.l 9 (.l 10 (.nil))))) (.l 9 (.l 7 (.q 8 (.l 10 (.nil))))))) (.l 9 (.l 6 (.l 7 (.q 8 (.l 10 (.nil)))))))) (.l 9 (.l 2 (.l 6 (.l 7 (.q 8 (.l 10 (.nil))))))))))))) (ay _) mixed (by kernel_rfl) Xd ?_
 have nd1w:w.drew.heap.size=w.heap.size:=rfl
 refine Hy rfl (aa rfl Fo.h)<|Hx rfl (fun _ hS=>ao Fb.h rfl hS (hb1.get rfl))<|Hy rfl (aq rfl)<|Hy rfl (aa rfl Fo.h)<|Hx rfl (fun _ hS=>ao Fb.h rfl hS (hb1.get rfl))<|WX.alt ?_ ?_
 ·refine cx rfl rfl (kS hc) ?_
  rintro v1 w1 ⟨rfl,e1⟩
  have ns1:=e1.s
  refine⟨ch,?_⟩
  refine WX.alt ?_ ?_
  ·refine cx rfl rfl (aO hs) ?_
   rintro v2 w2 ⟨rfl,e2⟩
   have ns2:=e2.s
   refine⟨ch,?_⟩
   refine WX.alt ?_ ?_
   ·refine cx rfl rfl (cJ (by omega) hs8) ?_
    rintro v3 w3 ⟨hOb,e3⟩
    obtain⟨q0,c0,hq0,_,_⟩:=hOb.form
    subst hq0
    have ns3:=e3.s
    refine⟨ch,?_⟩
    refine Hy rfl (az (cs:=[_,_]) Fo.h rfl rfl) ?_
    replace hb1:=(((hb1.m Xd).m e1).m e2).m e3
    have:=hb1.lt
    refine ax rfl ?_
    rintro _ w4 ⟨rfl,hb4,e4⟩
    have:=hb4.lt
    have ns4:=e4.s
    refine⟨ch,?_⟩
    refine WX.l0 rfl (bj rfl rfl hb4) ?_
    rintro _ w5 ⟨hb4,e5,hz5⟩
    have ns5:=e5.s
    refine⟨ch,?_⟩
    refine WX.nil ?_
    replace hT:=((((hT.m Xd).m e1).m e2).m e3).m (e4.t e5)
    replace hOb:=hOb.m (e4.t e5)
    exact(h2 _ _ ⟨_,hb4,rfl,(hOb.toB (fun b hb _=>by show N0≤b;omega)),hT.evo⟩).sub sb
   ·replace hb1:=((hb1.m Xd).m e1).m e2
    have:=hb1.lt
    refine ax rfl ?_
    rintro _ w3 ⟨rfl,hb3,e3⟩
    have:=hb3.lt
    have ns3:=e3.s
    refine⟨ch,?_⟩
    refine cx rfl rfl (cJ (by omega) hs8) ?_
    rintro v4 w4 ⟨hOb,e4⟩
    obtain⟨q0,c0,hq0,_,_⟩:=hOb.form
    subst hq0
    have ns4:=e4.s
    refine⟨ch,?_⟩
    refine Hy rfl (az (cs:=[_,_]) Fo.h rfl rfl) ?_
    replace hb3:=hb3.m e4
    refine WX.l0 rfl (bj rfl rfl hb3) ?_
    rintro _ w5 ⟨hb3,e5,hz5⟩
    have ns5:=e5.s
    refine⟨ch,?_⟩
    refine WX.nil ?_
    replace hT:=(((((hT.m Xd).m e1).m e2).m e3).m e4).m e5
    replace hOb:=hOb.m e5
    exact(h2 _ _ ⟨_,hb3,rfl,(hOb.toB (fun b hb _=>by show N0≤b;omega)),hT.evo⟩).sub sb
  ·replace hb1:=(hb1.m Xd).m e1
   have:=hb1.lt
   refine ax rfl ?_
   rintro _ w2 ⟨rfl,hb2,e2⟩
   have:=hb2.lt
   have ns2:=e2.s
   refine⟨ch,?_⟩
   refine cx rfl rfl (aO hs) ?_
   rintro v3 w3 ⟨rfl,e3⟩
   have ns3:=e3.s
   refine⟨ch,?_⟩
   refine cx rfl rfl (cJ (by omega) hs8) ?_
   rintro v4 w4 ⟨hOb,e4⟩
   obtain⟨q0,c0,hq0,_,_⟩:=hOb.form
   subst hq0
   have ns4:=e4.s
   refine⟨ch,?_⟩
   refine Hy rfl (az (cs:=[_,_]) Fo.h rfl rfl) ?_
   replace hb2:=(hb2.m e3).m e4
   refine WX.l0 rfl (bj rfl rfl hb2) ?_
   rintro _ w5 ⟨hb2,e5,hz5⟩
   have ns5:=e5.s
   refine⟨ch,?_⟩
   refine WX.nil ?_
   replace hT:=(((((hT.m Xd).m e1).m e2).m e3).m e4).m e5
   replace hOb:=hOb.m e5
   exact(h2 _ _ ⟨_,hb2,rfl,(hOb.toB (fun b hb _=>by show N0≤b;omega)),hT.evo⟩).sub sb
 ·replace hb1:=hb1.m Xd
  have:=hb1.lt
  refine ax rfl ?_
  rintro _ w1 ⟨rfl,hb1,e1⟩
  have:=hb1.lt
  have ns1:=e1.s
  refine⟨ch,?_⟩
  refine cx rfl rfl (kS hc) ?_
  rintro v2 w2 ⟨rfl,e2⟩
  have ns2:=e2.s
  refine⟨ch,?_⟩
  refine cx rfl rfl (aO hs) ?_
  rintro v3 w3 ⟨rfl,e3⟩
  have ns3:=e3.s
  refine⟨ch,?_⟩
  refine cx rfl rfl (cJ (by omega) hs8) ?_
  rintro v4 w4 ⟨hOb,e4⟩
  obtain⟨q0,c0,hq0,_,_⟩:=hOb.form
  subst hq0
  have ns4:=e4.s
  refine⟨ch,?_⟩
  refine Hy rfl (az (cs:=[_,_]) Fo.h rfl rfl) ?_
  replace hb1:=((hb1.m e2).m e3).m e4
  refine WX.l0 rfl (bj rfl rfl hb1) ?_
  rintro _ w5 ⟨hb1,e5,hz5⟩
  have ns5:=e5.s
  refine⟨ch,?_⟩
  refine WX.nil ?_
  replace hT:=(((((hT.m Xd).m e1).m e2).m e3).m e4).m e5
  replace hOb:=hOb.m e5
  exact(h2 _ _ ⟨_,hb1,rfl,(hOb.toB (fun b hb _=>by show N0≤b;omega)),hT.evo⟩).sub sb
set_option maxHeartbeats 1000000 in
theorem wo{N0 b g n:Nat}{k m u:Int}{cs:List Value}{dv v2:Value}(hm:(dz [(4,82),(5,83)] k).getD 0=m)(hm':(dz [(5,83),(4,82)] k).getD 0=m)(hρ:jZ [(1,.pointer (some ⟨b,0,none⟩)),(2,v2),(3,.int .u64 (n:Int)),(6,.slice (some ⟨g,0,none⟩) 1 1)] ρ)(hb1:aH w b (.int .i64 k::cs))(hbO:At w g 0 [.int .i64 u,dv])(hI:bT (fun b=>N0≤b∧b<w.heap.size) w dv (aI n s))(hg:g<w.heap.size)(hn:n<18446744073709551616)(hN:N0≤w.heap.size)
  (h2:∀i w',(∃B cs,w.heap.size≤B∧aT B 152 2 w' i 2 cs∧bg (fun b=>N0≤b∧b<w'.heap.size) w' [(m,aI n 1),(u,aI n s)] cs∧cs.all (fun v=>v.oneCell')=true∧ay w w')→WC TP Tryz.f89.ntmps [] y [(6,i),(1,.pointer (some ⟨b,0,none⟩)),(2,v2),(3,.int .u64 (n:Int))] w' X):WC TP Tryz.f89.ntmps [] (cg Tryz.f89 8) ρ w (andThen TP Tryz.f89.ntmps [] y X):=by
 have hI0:=hI
 obtain⟨p0,c0,hdv,_,_⟩:=hI0
 subst hdv
 refine WC.sub hρ ?_
 have hT:i7 (fun _=>True) w w:=⟨ay.refl _⟩
 refine WC.regionT (.q 4 (.q 5 (.q 7 (.q 11 (.alt (.l 0 (.alt (.l 1 (.alt (.l 2 (.q 3 (.alt (.l 6 (.l 8 (.q 9 (.l 10 (.l 12 (.q 13 (.nil))))))) (.l 8 (.l 6 (.q 9 (.l 10 (.l 12 (.q 13 (.nil)))))))))) (.l 8 (.l 2 (.q 3 (.l 6 (.q 9 (.l 10 (.l 12 (.q 13 (.nil))))))))))) (.alt (.l 2 (.alt (.l 1 (.q 3 (.alt (.l 6 (.l 8 (.q 9 (.l 10 (.l 12 (.q 13 (.nil))))))) (.l 8 (.l 6 (.q 9 (.l 10 (.l 12 (.q 13 (.nil)))))))))) (.l 8 (.l 1 (.q 3 (.l 6 (.q 9 (.l 10 (.l 12 (.q 13 (.nil))))))))))) (.l 8 (.alt (.l 1 (.l 2 (.q 3 (.l 6 (.q 9 (.l 10 (.l 12 (.q 13 (.nil))))))))) (.l 2 (.l 1 (.q 3 (.l 6 (.q 9 (.l 10 (.l 12 (.q 13 (.nil)))))))))))))) (.l 8 (.l 0 (.alt (.l 1 (.l 2 (.q 3 (.l 6 (.q 9 (.l 10 (.l 12 (.q 13 (.nil))))))))) (.l 2 (.l 1 (.q 3 (.l 6 (.q 9 (.l 10 (.l 12 (.q 13 (.nil))))))))))))))))) (ay _) mixed (by kernel_rfl) Xd ?_
 have nd1w:w.drew.heap.size=w.heap.size:=rfl
 refine Hy rfl (aa rfl Fo.h)<|Hx rfl (fun _ hS=>ao Fb.h rfl hS (hb1.get rfl))<|Hy rfl (aq rfl)<|Hy rfl (aq rfl)<|WX.alt ?_ ?_
 ·replace hb1:=hb1.m Xd
  have:=hb1.lt
  refine WX.l rfl rfl (d8 Fo.h (fun o h=>by cases h)) ?_
  rintro _ w1 ⟨rfl,hm1,e1⟩
  have:=hm1.lt
  have ns1:=e1.s
  refine⟨ch,?_⟩
  refine WX.alt ?_ ?_
  ·refine WX.l0 rfl (aV (l:=[]) Fo.h Fo.h rfl rfl rfl hm1 rfl) ?_
   rintro _ w2 ⟨hm1,e2⟩
   have ns2:=e2.s
   refine⟨ch,?_⟩
   refine WX.alt ?_ ?_
   ·refine WX.l0 rfl (aV (l:=[(4,82)]) Fo.h Fo.h rfl rfl rfl hm1 rfl) ?_
    exact AI
   ·refine cx rfl rfl (cJ (k:=1) (by omega) (by omega)) ?_
    rintro v3 w3 ⟨hOb,e3⟩
    obtain⟨q0,c0,hq0,_,_⟩:=hOb.form
    subst hq0
    have hZ1:=hOb.toB (A:=fun b=>w2.heap.size≤b∧b<w3.heap.size) (fun b hb hs=>⟨hb,hs⟩)
    have ns3:=e3.s
    refine⟨ch,?_⟩
    replace hm1:=hm1.m e3
    refine WX.l0 rfl (aV (l:=[(4,82)]) Fo.h Fo.h rfl rfl rfl hm1 rfl) ?_
    rintro _ w4 ⟨hm1,e4⟩
    have ns4:=e4.s
    refine⟨ch,?_⟩
    refine Hy rfl (aq rfl)<|WX.rd rfl rfl (gy (b:=m) (cz Fo.h Fo.h eo rfl rfl Xr hm1) (by first|exact hm|exact hm')) ⟨((((Vd.t e1).t e2).t e3).t e4),?_⟩
    refine Hy rfl (az (cs:=[_,_]) Fo.h rfl rfl)<|WX.l rfl rfl (cZ (vs:=[_]) Fo.h rfl rfl rfl rfl rfl) ?_
    rintro v5 w5 ⟨rfl,hOl,e5⟩
    have hbl5:=hOl.lt _ rfl
    have ns5:=e5.s
    refine⟨ch,?_⟩
    refine WX.l rfl rfl (bz Fo.h rfl rfl hOl (Src.at Fb.h (((((hbO.m Xd).m (e1.t e2)).m e3).m e4).m e5) rfl rfl) (by omega) (by simp only[maxLen];omega) (by omega)) ?_
    rintro v6 w6 ⟨hO,e6⟩
    have ns6:=e6.s
    refine⟨ch,?_⟩
    refine Hy rfl (ap rfl)<|WX.nil ?_
    replace hT:=(((((hT.m Xd).m (e1.t e2)).m e3).m e4).m e5).m e6
    replace hI:=(((((hI.m Xd).m (e1.t e2)).m e3).m e4).m e5).m e6
    replace hZ1:=((hZ1.m e4).m e5).m e6
    exact mb
  ·refine WX.alt ?_ ?_
   ·refine WX.l0 rfl (aV (l:=[]) Fo.h Fo.h rfl rfl rfl hm1 rfl) ?_
    rintro _ w2 ⟨hm1,e2⟩
    have ns2:=e2.s
    refine⟨ch,?_⟩
    refine WX.alt ?_ ?_
    ·refine WX.l0 rfl (aV (l:=[(5,83)]) Fo.h Fo.h rfl rfl rfl hm1 rfl) ?_
     exact AI
    ·refine cx rfl rfl (cJ (k:=1) (by omega) (by omega)) ?_
     rintro v3 w3 ⟨hOb,e3⟩
     obtain⟨q0,c0,hq0,_,_⟩:=hOb.form
     subst hq0
     have hZ1:=hOb.toB (A:=fun b=>w2.heap.size≤b∧b<w3.heap.size) (fun b hb hs=>⟨hb,hs⟩)
     have ns3:=e3.s
     refine⟨ch,?_⟩
     replace hm1:=hm1.m e3
     refine WX.l0 rfl (aV (l:=[(5,83)]) Fo.h Fo.h rfl rfl rfl hm1 rfl) ?_
     rintro _ w4 ⟨hm1,e4⟩
     have ns4:=e4.s
     refine⟨ch,?_⟩
     refine Hy rfl (aq rfl)<|WX.rd rfl rfl (gy (b:=m) (cz Fo.h Fo.h eo rfl rfl Xr hm1) (by first|exact hm|exact hm')) ⟨((((Vd.t e1).t e2).t e3).t e4),?_⟩
     refine Hy rfl (az (cs:=[_,_]) Fo.h rfl rfl)<|WX.l rfl rfl (cZ (vs:=[_]) Fo.h rfl rfl rfl rfl rfl) ?_
     rintro v5 w5 ⟨rfl,hOl,e5⟩
     have hbl5:=hOl.lt _ rfl
     have ns5:=e5.s
     refine⟨ch,?_⟩
     refine WX.l rfl rfl (bz Fo.h rfl rfl hOl (Src.at Fb.h (((((hbO.m Xd).m (e1.t e2)).m e3).m e4).m e5) rfl rfl) (by omega) (by simp only[maxLen];omega) (by omega)) ?_
     rintro v6 w6 ⟨hO,e6⟩
     have ns6:=e6.s
     refine⟨ch,?_⟩
     refine Hy rfl (ap rfl)<|WX.nil ?_
     replace hT:=(((((hT.m Xd).m (e1.t e2)).m e3).m e4).m e5).m e6
     replace hI:=(((((hI.m Xd).m (e1.t e2)).m e3).m e4).m e5).m e6
     replace hZ1:=((hZ1.m e4).m e5).m e6
     exact mb
   ·refine cx rfl rfl (cJ (k:=1) (by omega) (by omega)) ?_
    rintro v2 w2 ⟨hOb,e2⟩
    obtain⟨q0,c0,hq0,_,_⟩:=hOb.form
    subst hq0
    have hZ1:=hOb.toB (A:=fun b=>w1.heap.size≤b∧b<w2.heap.size) (fun b hb hs=>⟨hb,hs⟩)
    have ns2:=e2.s
    refine⟨ch,?_⟩
    refine WX.alt ?_ ?_
    ·replace hm1:=hm1.m e2
     refine WX.l0 rfl (aV (l:=[]) Fo.h Fo.h rfl rfl rfl hm1 rfl) ?_
     rintro _ w3 ⟨hm1,e3⟩
     have ns3:=e3.s
     refine⟨ch,?_⟩
     refine WX.l0 rfl (aV (l:=[(4,82)]) Fo.h Fo.h rfl rfl rfl hm1 rfl) ?_
     rintro _ w4 ⟨hm1,e4⟩
     have ns4:=e4.s
     refine⟨ch,?_⟩
     refine Hy rfl (aq rfl)<|WX.rd rfl rfl (gy (b:=m) (cz Fo.h Fo.h eo rfl rfl Xr hm1) (by first|exact hm|exact hm')) ⟨((((Vd.t e1).t e2).t e3).t e4),?_⟩
     refine Hy rfl (az (cs:=[_,_]) Fo.h rfl rfl)<|WX.l rfl rfl (cZ (vs:=[_]) Fo.h rfl rfl rfl rfl rfl) ?_
     rintro v5 w5 ⟨rfl,hOl,e5⟩
     have hbl5:=hOl.lt _ rfl
     have ns5:=e5.s
     refine⟨ch,?_⟩
     refine WX.l rfl rfl (bz Fo.h rfl rfl hOl (Src.at Fb.h ((((((hbO.m Xd).m e1).m e2).m e3).m e4).m e5) rfl rfl) (by omega) (by simp only[maxLen];omega) (by omega)) ?_
     rintro v6 w6 ⟨hO,e6⟩
     have ns6:=e6.s
     refine⟨ch,?_⟩
     refine Hy rfl (ap rfl)<|WX.nil ?_
     replace hT:=((((((hT.m Xd).m e1).m e2).m e3).m e4).m e5).m e6
     replace hI:=((((((hI.m Xd).m e1).m e2).m e3).m e4).m e5).m e6
     replace hZ1:=(((hZ1.m e3).m e4).m e5).m e6
     exact mb
    ·replace hm1:=hm1.m e2
     refine WX.l0 rfl (aV (l:=[]) Fo.h Fo.h rfl rfl rfl hm1 rfl) ?_
     rintro _ w3 ⟨hm1,e3⟩
     have ns3:=e3.s
     refine⟨ch,?_⟩
     refine WX.l0 rfl (aV (l:=[(5,83)]) Fo.h Fo.h rfl rfl rfl hm1 rfl) ?_
     rintro _ w4 ⟨hm1,e4⟩
     have ns4:=e4.s
     refine⟨ch,?_⟩
     refine Hy rfl (aq rfl)<|WX.rd rfl rfl (gy (b:=m) (cz Fo.h Fo.h eo rfl rfl Xr hm1) (by first|exact hm|exact hm')) ⟨((((Vd.t e1).t e2).t e3).t e4),?_⟩
     refine Hy rfl (az (cs:=[_,_]) Fo.h rfl rfl)<|WX.l rfl rfl (cZ (vs:=[_]) Fo.h rfl rfl rfl rfl rfl) ?_
     rintro v5 w5 ⟨rfl,hOl,e5⟩
     have hbl5:=hOl.lt _ rfl
     have ns5:=e5.s
     refine⟨ch,?_⟩
     refine WX.l rfl rfl (bz Fo.h rfl rfl hOl (Src.at Fb.h ((((((hbO.m Xd).m e1).m e2).m e3).m e4).m e5) rfl rfl) (by omega) (by simp only[maxLen];omega) (by omega)) ?_
     rintro v6 w6 ⟨hO,e6⟩
     have ns6:=e6.s
     refine⟨ch,?_⟩
     refine Hy rfl (ap rfl)<|WX.nil ?_
     replace hT:=((((((hT.m Xd).m e1).m e2).m e3).m e4).m e5).m e6
     replace hI:=((((((hI.m Xd).m e1).m e2).m e3).m e4).m e5).m e6
     replace hZ1:=(((hZ1.m e3).m e4).m e5).m e6
     exact mb
 ·refine cx rfl rfl (cJ (k:=1) (by omega) (by omega)) ?_
  rintro v1 w1 ⟨hOb,e1⟩
  obtain⟨q0,c0,hq0,_,_⟩:=hOb.form
  subst hq0
  have hZ1:=hOb.toB (A:=fun b=>w.heap.size≤b∧b<w1.heap.size) (fun b hb hs=>⟨hb,hs⟩)
  have ns1:=e1.s
  refine⟨ch,?_⟩
  replace hb1:=(hb1.m Xd).m e1
  have:=hb1.lt
  refine WX.l rfl rfl (d8 Fo.h (fun o h=>by cases h)) ?_
  rintro _ w2 ⟨rfl,hm2,e2⟩
  have:=hm2.lt
  have ns2:=e2.s
  refine⟨ch,?_⟩
  refine WX.alt ?_ ?_
  ·refine WX.l0 rfl (aV (l:=[]) Fo.h Fo.h rfl rfl rfl hm2 rfl) ?_
   rintro _ w3 ⟨hm2,e3⟩
   have ns3:=e3.s
   refine⟨ch,?_⟩
   refine WX.l0 rfl (aV (l:=[(4,82)]) Fo.h Fo.h rfl rfl rfl hm2 rfl) ?_
   rintro _ w4 ⟨hm2,e4⟩
   have ns4:=e4.s
   refine⟨ch,?_⟩
   refine Hy rfl (aq rfl)<|WX.rd rfl rfl (gy (b:=m) (cz Fo.h Fo.h eo rfl rfl Xr hm2) (by first|exact hm|exact hm')) ⟨((((Vd.t e1).t e2).t e3).t e4),?_⟩
   refine Hy rfl (az (cs:=[_,_]) Fo.h rfl rfl)<|WX.l rfl rfl (cZ (vs:=[_]) Fo.h rfl rfl rfl rfl rfl) ?_
   rintro v5 w5 ⟨rfl,hOl,e5⟩
   have hbl5:=hOl.lt _ rfl
   have ns5:=e5.s
   refine⟨ch,?_⟩
   refine WX.l rfl rfl (bz Fo.h rfl rfl hOl (Src.at Fb.h ((((hbO.m Xd).m e1).m ((e2.t e3).t e4)).m e5) rfl rfl) (by omega) (by simp only[maxLen];omega) (by omega)) ?_
   rintro v6 w6 ⟨hO,e6⟩
   have ns6:=e6.s
   refine⟨ch,?_⟩
   refine Hy rfl (ap rfl)<|WX.nil ?_
   replace hT:=((((hT.m Xd).m e1).m ((e2.t e3).t e4)).m e5).m e6
   replace hI:=((((hI.m Xd).m e1).m ((e2.t e3).t e4)).m e5).m e6
   replace hZ1:=((hZ1.m ((e2.t e3).t e4)).m e5).m e6
   exact mb
  ·refine WX.l0 rfl (aV (l:=[]) Fo.h Fo.h rfl rfl rfl hm2 rfl) ?_
   rintro _ w3 ⟨hm2,e3⟩
   have ns3:=e3.s
   refine⟨ch,?_⟩
   refine WX.l0 rfl (aV (l:=[(5,83)]) Fo.h Fo.h rfl rfl rfl hm2 rfl) ?_
   rintro _ w4 ⟨hm2,e4⟩
   have ns4:=e4.s
   refine⟨ch,?_⟩
   refine Hy rfl (aq rfl)<|WX.rd rfl rfl (gy (b:=m) (cz Fo.h Fo.h eo rfl rfl Xr hm2) (by first|exact hm|exact hm')) ⟨((((Vd.t e1).t e2).t e3).t e4),?_⟩
   refine Hy rfl (az (cs:=[_,_]) Fo.h rfl rfl)<|WX.l rfl rfl (cZ (vs:=[_]) Fo.h rfl rfl rfl rfl rfl) ?_
   rintro v5 w5 ⟨rfl,hOl,e5⟩
   have hbl5:=hOl.lt _ rfl
   have ns5:=e5.s
   refine⟨ch,?_⟩
   refine WX.l rfl rfl (bz Fo.h rfl rfl hOl (Src.at Fb.h ((((hbO.m Xd).m e1).m ((e2.t e3).t e4)).m e5) rfl rfl) (by omega) (by simp only[maxLen];omega) (by omega)) ?_
   rintro v6 w6 ⟨hO,e6⟩
   have ns6:=e6.s
   refine⟨ch,?_⟩
   refine Hy rfl (ap rfl)<|WX.nil ?_
   replace hT:=((((hT.m Xd).m e1).m ((e2.t e3).t e4)).m e5).m e6
   replace hI:=((((hI.m Xd).m e1).m ((e2.t e3).t e4)).m e5).m e6
   replace hZ1:=((hZ1.m ((e2.t e3).t e4)).m e5).m e6
   exact mb
theorem fm{k:Int}{s:Nat}{u:UInt8}{o:Int}{cx:List Value}(hx:aC A w (.mk k n t ks o d) cx)(hc:gJ k=(u.toNat:Int))(hs:vU k=(s:Int))(hs8:s≤8)(hP:Pc (.mk k n t ks o d) u (aI n s))(hn:n<18446744073709551616)(hk:k≠4∧k≠5∧k≠8∧k≠9):
  ah TP 89 [.agg cx.toArray] w fun r w'=>iZ w.heap.size (.mk k n t ks o d) r w'∧ay w w':=by
 have hfull:∀ps:List ie,(gJ k,aI n s)∈ps→dp (V.mk k n t ks o d).kind→∃p∈ps,p.1=gJ (V.mk k n t ks o d).kind:=fun ps h _=>⟨_,h,rfl⟩
 have hPI:mS (.mk k n t ks o d) ((u.toNat:Int),aI n s):=⟨u,rfl,hP⟩
 rw[hc]at hfull
 obtain⟨pk,ck,pd,cd,rfl,_,_,_,_⟩:=hx.openV
 refine aR Tryz.func89 ?_
 have he:=XI w
 refine jA 2 rfl ?_
 have:=he.s
 refine Hb rfl fun w1 hb1 e1=>?_
 have:=hb1.lt
 have:=e1.s
 refine jC 2 rfl<|WC.seq<|WC.regionD (tt [0,1,2,3,4,5,6]) (ay _) mixed (by kernel_rfl) Xd ?_
 have nd1w1:w1.drew.heap.size=w1.heap.size:=rfl
 refine jE 1 rfl<|dl rfl hb1 rfl<|jE 1 rfl<|dl rfl hb1 rfl<|He (fun _ hS=>aL Fo.h rfl)<|jE 2 rfl<|WD.nil ?_
 replace hb1:=hb1.m Xd
 replace he:=(he.t e1).t Xd
 refine WC.seq<|rg (N0:=w.heap.size) sb hb1 hc hs hs8 hn (by omega) ?_
 intro i wj hh;obtain⟨dv,hB,od,hI,hE⟩:=hh
 replace he:=he.t hE
 have:=he.s
 refine jA 2 rfl<|la rfl hB ?_
 have:=he.s
 replace hb1:=hb1.m hE
 have:=hb1.lt
 refine WL.l rfl (ll [_]) ?_
 rintro _ w2 ⟨rfl,hb2,e2⟩
 have:=e2.s
 refine jD 6 rfl ?_
 replace hb1:=hb1.m e2
 refine ld rfl hb1 rfl<|jD 5 rfl<|Hq (ae (ak rfl rfl) (bk (hk.1)))<|jD 4 rfl<|Hq (ae (ak rfl rfl) (bk (hk.2.1)))<|jD 6 rfl<|Hq (ae (ak rfl rfl) (bk (hk.2.2.1)))<|jD 4 rfl<|Hq (ae (ak rfl rfl) (bk (hk.2.2.2)))<|jD 4 rfl<|jA 5 rfl<|WC.ret ?_
 exact vH
theorem xK{k:Int}{s:Nat}{u:UInt8}{o:Int}{cx:List Value}(hx:aC A w (.mk k n t ks o d) cx)(hc:gJ k=(u.toNat:Int))(hs:vU k=(s:Int))(hs8:s≤8)(hP:Pc (.mk k n t ks o d) u (aI n s))(hn:n<18446744073709551616)(hk:k=4)(hq:256≤n):
  ah TP 89 [.agg cx.toArray] w fun r w'=>iZ w.heap.size (.mk k n t ks o d) r w'∧ay w w':=by
 have hfull:∀ps:List ie,(gJ k,aI n s)∈ps→dp (V.mk k n t ks o d).kind→∃p∈ps,p.1=gJ (V.mk k n t ks o d).kind:=fun ps h _=>⟨_,h,rfl⟩
 have hPI:mS (.mk k n t ks o d) ((u.toNat:Int),aI n s):=⟨u,rfl,hP⟩
 rw[hc]at hfull
 subst hk
 obtain⟨pk,ck,pd,cd,rfl,_,_,_,_⟩:=hx.openV
 refine aR Tryz.func89 ?_
 have he:=XI w
 refine jA 2 rfl ?_
 have:=he.s
 refine Hb rfl fun w1 hb1 e1=>?_
 have:=hb1.lt
 have:=e1.s
 refine jC 2 rfl<|WC.seq<|WC.regionD (tt [0,1,2,3,4,5,6]) (ay _) mixed (by kernel_rfl) Xd ?_
 have nd1w1:w1.drew.heap.size=w1.heap.size:=rfl
 refine jE 1 rfl<|dl rfl hb1 rfl<|jE 1 rfl<|dl rfl hb1 rfl<|He (fun _ hS=>aL Fo.h rfl)<|jE 2 rfl<|WD.nil ?_
 replace hb1:=hb1.m Xd
 replace he:=(he.t e1).t Xd
 refine WC.seq<|rg (N0:=w.heap.size) sb hb1 hc hs hs8 hn (by omega) ?_
 intro i wj hh;obtain⟨dv,hB,od,hI,hE⟩:=hh
 replace he:=he.t hE
 have:=he.s
 refine jA 2 rfl<|la rfl hB ?_
 have:=he.s
 replace hb1:=hb1.m hE
 have:=hb1.lt
 refine WL.l rfl (ll [_]) ?_
 rintro _ w2 ⟨rfl,hb2,e2⟩
 have:=e2.s
 refine jD 6 rfl ?_
 replace hb1:=hb1.m e2
 refine ld rfl hb1 rfl<|jD 15 rfl<|lF rfl rfl<|jD 3 rfl<|jA 3 rfl<|Hq (ae (ak rfl rfl) (bk (by(omega))))<|jD 3 rfl<|jA 5 rfl<|WC.ret ?_
 exact vH
theorem sU{k:Int}{s:Nat}{u:UInt8}{o:Int}{cx:List Value}(hx:aC A w (.mk k n t ks o d) cx)(hc:gJ k=(u.toNat:Int))(hs:vU k=(s:Int))(hs8:s≤8)(hP:Pc (.mk k n t ks o d) u (aI n s))(hn:n<18446744073709551616)(hk:k=4)(hq:n<256)(hz:0<n):
  ah TP 89 [.agg cx.toArray] w fun r w'=>iZ w.heap.size (.mk k n t ks o d) r w'∧ay w w':=by
 have hfull:∀ps:List ie,(gJ k,aI n s)∈ps→dp (V.mk k n t ks o d).kind→∃p∈ps,p.1=gJ (V.mk k n t ks o d).kind:=fun ps h _=>⟨_,h,rfl⟩
 have hPI:mS (.mk k n t ks o d) ((u.toNat:Int),aI n s):=⟨u,rfl,hP⟩
 rw[hc]at hfull
 subst hk
 obtain⟨pk,ck,pd,cd,rfl,_,_,_,_⟩:=hx.openV
 refine aR Tryz.func89 ?_
 have he:=XI w
 refine jA 2 rfl ?_
 have:=he.s
 refine Hb rfl fun w1 hb1 e1=>?_
 have:=hb1.lt
 have:=e1.s
 refine jC 2 rfl<|WC.seq<|WC.regionD (tt [0,1,2,3,4,5,6]) (ay _) mixed (by kernel_rfl) Xd ?_
 have nd1w1:w1.drew.heap.size=w1.heap.size:=rfl
 refine jE 1 rfl<|dl rfl hb1 rfl<|jE 1 rfl<|dl rfl hb1 rfl<|He (fun _ hS=>aL Fo.h rfl)<|jE 2 rfl<|WD.nil ?_
 replace hb1:=hb1.m Xd
 replace he:=(he.t e1).t Xd
 refine WC.seq<|rg (N0:=w.heap.size) sb hb1 hc hs hs8 hn (by omega) ?_
 intro i wj hh;obtain⟨dv,hB,od,hI,hE⟩:=hh
 replace he:=he.t hE
 have:=he.s
 have:=hB.lt
 have hI0:=hI
 obtain⟨p0,c0,hdv,_,_⟩:=hI0
 subst hdv
 refine jA 2 rfl<|la rfl hB ?_
 have:=he.s
 replace hb1:=hb1.m hE
 have:=hb1.lt
 refine WL.l rfl (ll [_]) ?_
 rintro _ w2 ⟨rfl,hb2,e2⟩
 have:=e2.s
 refine jD 6 rfl ?_
 replace hb1:=hb1.m e2
 refine ld rfl hb1 rfl<|jD 15 rfl<|lT rfl rfl<|jD 2 rfl ?_
 replace hI:=hI.m e2
 have hI:=hI.k (B:=fun b=>w.heap.size≤b∧b<w2.heap.size) (fun b hb h=>⟨h,hb⟩)
 have hbO:=iN hb2
 replace hB:=hB.m e2
 replace he:=he.t e2
 refine wo (N0:=w.heap.size) (m:=82) rfl rfl sb hb1 hbO hI hb2.lt hn (by omega) ?_
 have hI1:mS (.mk 4 n t ks o d) (82,aI n 1):=⟨82,rfl,.uint1 (by omega)⟩
 exact AJ
set_option maxHeartbeats 1000000 in
theorem uK{k:Int}{s:Nat}{u:UInt8}{o:Int}{cx:List Value}(hx:aC A w (.mk k n t ks o d) cx)(hc:gJ k=(u.toNat:Int))(hs:vU k=(s:Int))(hs8:s≤8)(hP:Pc (.mk k n t ks o d) u (aI n s))(hn:n<18446744073709551616)(hk:k=4)(hz:n=0):
  ah TP 89 [.agg cx.toArray] w fun r w'=>iZ w.heap.size (.mk k n t ks o d) r w'∧ay w w':=by
 have hfull:∀ps:List ie,(gJ k,aI n s)∈ps→dp (V.mk k n t ks o d).kind→∃p∈ps,p.1=gJ (V.mk k n t ks o d).kind:=fun ps h _=>⟨_,h,rfl⟩
 have hPI:mS (.mk k n t ks o d) ((u.toNat:Int),aI n s):=⟨u,rfl,hP⟩
 rw[hc]at hfull
 subst hk
 obtain⟨pk,ck,pd,cd,rfl,_,_,_,_⟩:=hx.openV
 refine aR Tryz.func89 ?_
 have he:=XI w
 refine jA 2 rfl ?_
 have:=he.s
 refine Hb rfl fun w1 hb1 e1=>?_
 have:=hb1.lt
 have:=e1.s
 refine jC 2 rfl<|WC.seq<|WC.regionD (tt [0,1,2,3,4,5,6]) (ay _) mixed (by kernel_rfl) Xd ?_
 have nd1w1:w1.drew.heap.size=w1.heap.size:=rfl
 refine jE 1 rfl<|dl rfl hb1 rfl<|jE 1 rfl<|dl rfl hb1 rfl<|He (fun _ hS=>aL Fo.h rfl)<|jE 2 rfl<|WD.nil ?_
 replace hb1:=hb1.m Xd
 replace he:=(he.t e1).t Xd
 refine WC.seq<|rg (N0:=w.heap.size) sb hb1 hc hs hs8 hn (by omega) ?_
 intro i wj hh;obtain⟨dv,hB,od,hI,hE⟩:=hh
 replace he:=he.t hE
 have:=he.s
 have:=hB.lt
 have hI0:=hI
 obtain⟨p0,c0,hdv,_,_⟩:=hI0
 subst hdv
 refine jA 2 rfl<|la rfl hB ?_
 have:=he.s
 replace hb1:=hb1.m hE
 have:=hb1.lt
 refine WL.l rfl (ll [_]) ?_
 rintro _ w2 ⟨rfl,hb2,e2⟩
 have:=e2.s
 refine jD 6 rfl ?_
 replace hb1:=hb1.m e2
 refine ld rfl hb1 rfl<|jD 15 rfl<|lT rfl rfl<|jD 2 rfl ?_
 replace hI:=hI.m e2
 have hI:=hI.k (B:=fun b=>w.heap.size≤b∧b<w2.heap.size) (fun b hb h=>⟨h,hb⟩)
 have hbO:=iN hb2
 replace hB:=hB.m e2
 replace he:=he.t e2
 refine wo (N0:=w.heap.size) (m:=82) rfl rfl sb hb1 hbO hI hb2.lt hn (by omega) ?_
 have hI1:mS (.mk 4 n t ks o d) (82,aI n 1):=⟨82,rfl,.uint1 (by omega)⟩
 intro i wj hh;obtain⟨B,cs,nB,hO,hV,oc,hE⟩:=hh
 have nB':w.heap.size≤B:=by omega
 refine jA 3 rfl<|Hq (ae (ak rfl rfl) (br (by(omega))))<|jD 3 rfl ?_
 replace he:=he.t hE
 have:=he.s
 replace hb1:=hb1.m hE
 have:=hb1.lt
 replace hb2:=hb2.m hE
 have:=hb2.lt
 refine WL.l rfl (d8 Fo.h (fun o h=>by cases h)) ?_
 rintro _ w3 ⟨rfl,hm3,e3⟩
 have:=hm3.lt
 have:=e3.s
 refine WL.l0 (aV (l:=[]) Fo.h Fo.h rfl rfl rfl hm3 rfl) ?_
 rintro _ w4 ⟨hm3,e4⟩
 have:=e4.s
 refine WL.l0 (aV (l:=[(4,67)]) Fo.h Fo.h rfl rfl rfl hm3 rfl) ?_
 rintro _ w5 ⟨hm3,e5⟩
 have:=e5.s
 refine jC 2 rfl ?_
 replace hb1:=hb1.m ((e3.t e4).t e5)
 refine ld rfl hb1 rfl<|Hq (gy (b:=67) (cz (l:=[(4,67),(5,68)]) Fo.h Fo.h eo rfl rfl Xr hm3) (by decide))<|Hq (az (cs:=[_,_]) Fo.h rfl rfl)<|WL.l rfl (cZ (vs:=[_]) Fo.h rfl rfl rfl rfl rfl) ?_
 rintro v6 w6 ⟨rfl,hOl,e6⟩
 have hbl6:=hOl.lt _ rfl
 have:=e6.s
 refine jC 1 rfl ?_
 replace hO:=(hO.m ((e3.t e4).t e5)).m e6
 refine WL.l rfl (bz Fo.h rfl rfl hOl (Src.own Fb.h hO (by omega) oc) (by omega) (by simp only[maxLen];omega) (by omega)) ?_
 rintro v7 w7 ⟨hOf,e7⟩
 have:=e7.s
 refine jD 7 rfl<|WC.ret ?_
 have hI2:mS (.mk 4 n t ks o d) (67,[]):=⟨67,rfl,by rw[hz];exact .uint0⟩
 replace hV:=((hV.m ((e3.t e4).t e5)).m e6).m e7
 replace he:=((he.t ((e3.t e4).t e5)).t e6).t e7
 exact aw rfl ⟨⟨_,⟨fun p hp=>by rcases List.mem_cons.1 hp with e|hp;exact e▸hI2;rcases List.mem_cons.1 hp with e|hp;exact e▸hI1;exact List.mem_singleton.1 hp▸hPI,by simp,by simp,hfull _ (by simp)⟩,ei.own hOf rfl (bg.append (bg.one (p:=(67,[])) bT.nil) (hV.k fun b h=>h.1)) (fun b hb=>by show w.heap.size≤b;omega)⟩,he⟩
theorem xL{k:Int}{s:Nat}{u:UInt8}{o:Int}{cx:List Value}(hx:aC A w (.mk k n t ks o d) cx)(hc:gJ k=(u.toNat:Int))(hs:vU k=(s:Int))(hs8:s≤8)(hP:Pc (.mk k n t ks o d) u (aI n s))(hn:n<18446744073709551616)(hk:k=5)(hq:256≤n):
  ah TP 89 [.agg cx.toArray] w fun r w'=>iZ w.heap.size (.mk k n t ks o d) r w'∧ay w w':=by
 have hfull:∀ps:List ie,(gJ k,aI n s)∈ps→dp (V.mk k n t ks o d).kind→∃p∈ps,p.1=gJ (V.mk k n t ks o d).kind:=fun ps h _=>⟨_,h,rfl⟩
 have hPI:mS (.mk k n t ks o d) ((u.toNat:Int),aI n s):=⟨u,rfl,hP⟩
 rw[hc]at hfull
 subst hk
 obtain⟨pk,ck,pd,cd,rfl,_,_,_,_⟩:=hx.openV
 refine aR Tryz.func89 ?_
 have he:=XI w
 refine jA 2 rfl ?_
 have:=he.s
 refine Hb rfl fun w1 hb1 e1=>?_
 have:=hb1.lt
 have:=e1.s
 refine jC 2 rfl<|WC.seq<|WC.regionD (tt [0,1,2,3,4,5,6]) (ay _) mixed (by kernel_rfl) Xd ?_
 have nd1w1:w1.drew.heap.size=w1.heap.size:=rfl
 refine jE 1 rfl<|dl rfl hb1 rfl<|jE 1 rfl<|dl rfl hb1 rfl<|He (fun _ hS=>aL Fo.h rfl)<|jE 2 rfl<|WD.nil ?_
 replace hb1:=hb1.m Xd
 replace he:=(he.t e1).t Xd
 refine WC.seq<|rg (N0:=w.heap.size) sb hb1 hc hs hs8 hn (by omega) ?_
 intro i wj hh;obtain⟨dv,hB,od,hI,hE⟩:=hh
 replace he:=he.t hE
 have:=he.s
 refine jA 2 rfl<|la rfl hB ?_
 have:=he.s
 replace hb1:=hb1.m hE
 have:=hb1.lt
 refine WL.l rfl (ll [_]) ?_
 rintro _ w2 ⟨rfl,hb2,e2⟩
 have:=e2.s
 refine jD 6 rfl ?_
 replace hb1:=hb1.m e2
 refine ld rfl hb1 rfl<|jD 18 rfl<|lF rfl rfl<|jD 3 rfl<|jA 3 rfl<|Hq (ae (ak rfl rfl) (bk (by(omega))))<|jD 3 rfl<|jA 5 rfl<|WC.ret ?_
 exact vH
theorem sV{k:Int}{s:Nat}{u:UInt8}{o:Int}{cx:List Value}(hx:aC A w (.mk k n t ks o d) cx)(hc:gJ k=(u.toNat:Int))(hs:vU k=(s:Int))(hs8:s≤8)(hP:Pc (.mk k n t ks o d) u (aI n s))(hn:n<18446744073709551616)(hk:k=5)(hq:n<256)(hz:0<n):
  ah TP 89 [.agg cx.toArray] w fun r w'=>iZ w.heap.size (.mk k n t ks o d) r w'∧ay w w':=by
 have hfull:∀ps:List ie,(gJ k,aI n s)∈ps→dp (V.mk k n t ks o d).kind→∃p∈ps,p.1=gJ (V.mk k n t ks o d).kind:=fun ps h _=>⟨_,h,rfl⟩
 have hPI:mS (.mk k n t ks o d) ((u.toNat:Int),aI n s):=⟨u,rfl,hP⟩
 rw[hc]at hfull
 subst hk
 obtain⟨pk,ck,pd,cd,rfl,_,_,_,_⟩:=hx.openV
 refine aR Tryz.func89 ?_
 have he:=XI w
 refine jA 2 rfl ?_
 have:=he.s
 refine Hb rfl fun w1 hb1 e1=>?_
 have:=hb1.lt
 have:=e1.s
 refine jC 2 rfl<|WC.seq<|WC.regionD (tt [0,1,2,3,4,5,6]) (ay _) mixed (by kernel_rfl) Xd ?_
 have nd1w1:w1.drew.heap.size=w1.heap.size:=rfl
 refine jE 1 rfl<|dl rfl hb1 rfl<|jE 1 rfl<|dl rfl hb1 rfl<|He (fun _ hS=>aL Fo.h rfl)<|jE 2 rfl<|WD.nil ?_
 replace hb1:=hb1.m Xd
 replace he:=(he.t e1).t Xd
 refine WC.seq<|rg (N0:=w.heap.size) sb hb1 hc hs hs8 hn (by omega) ?_
 intro i wj hh;obtain⟨dv,hB,od,hI,hE⟩:=hh
 replace he:=he.t hE
 have:=he.s
 have:=hB.lt
 have hI0:=hI
 obtain⟨p0,c0,hdv,_,_⟩:=hI0
 subst hdv
 refine jA 2 rfl<|la rfl hB ?_
 have:=he.s
 replace hb1:=hb1.m hE
 have:=hb1.lt
 refine WL.l rfl (ll [_]) ?_
 rintro _ w2 ⟨rfl,hb2,e2⟩
 have:=e2.s
 refine jD 6 rfl ?_
 replace hb1:=hb1.m e2
 refine ld rfl hb1 rfl<|jD 18 rfl<|lT rfl rfl<|jD 2 rfl ?_
 replace hI:=hI.m e2
 have hI:=hI.k (B:=fun b=>w.heap.size≤b∧b<w2.heap.size) (fun b hb h=>⟨h,hb⟩)
 have hbO:=iN hb2
 replace hB:=hB.m e2
 replace he:=he.t e2
 refine wo (N0:=w.heap.size) (m:=83) rfl rfl sb hb1 hbO hI hb2.lt hn (by omega) ?_
 have hI1:mS (.mk 5 n t ks o d) (83,aI n 1):=⟨83,rfl,.ulong1 (by omega)⟩
 exact AJ
set_option maxHeartbeats 1000000 in
theorem uL{k:Int}{s:Nat}{u:UInt8}{o:Int}{cx:List Value}(hx:aC A w (.mk k n t ks o d) cx)(hc:gJ k=(u.toNat:Int))(hs:vU k=(s:Int))(hs8:s≤8)(hP:Pc (.mk k n t ks o d) u (aI n s))(hn:n<18446744073709551616)(hk:k=5)(hz:n=0):
  ah TP 89 [.agg cx.toArray] w fun r w'=>iZ w.heap.size (.mk k n t ks o d) r w'∧ay w w':=by
 have hfull:∀ps:List ie,(gJ k,aI n s)∈ps→dp (V.mk k n t ks o d).kind→∃p∈ps,p.1=gJ (V.mk k n t ks o d).kind:=fun ps h _=>⟨_,h,rfl⟩
 have hPI:mS (.mk k n t ks o d) ((u.toNat:Int),aI n s):=⟨u,rfl,hP⟩
 rw[hc]at hfull
 subst hk
 obtain⟨pk,ck,pd,cd,rfl,_,_,_,_⟩:=hx.openV
 refine aR Tryz.func89 ?_
 have he:=XI w
 refine jA 2 rfl ?_
 have:=he.s
 refine Hb rfl fun w1 hb1 e1=>?_
 have:=hb1.lt
 have:=e1.s
 refine jC 2 rfl<|WC.seq<|WC.regionD (tt [0,1,2,3,4,5,6]) (ay _) mixed (by kernel_rfl) Xd ?_
 have nd1w1:w1.drew.heap.size=w1.heap.size:=rfl
 refine jE 1 rfl<|dl rfl hb1 rfl<|jE 1 rfl<|dl rfl hb1 rfl<|He (fun _ hS=>aL Fo.h rfl)<|jE 2 rfl<|WD.nil ?_
 replace hb1:=hb1.m Xd
 replace he:=(he.t e1).t Xd
 refine WC.seq<|rg (N0:=w.heap.size) sb hb1 hc hs hs8 hn (by omega) ?_
 intro i wj hh;obtain⟨dv,hB,od,hI,hE⟩:=hh
 replace he:=he.t hE
 have:=he.s
 have:=hB.lt
 have hI0:=hI
 obtain⟨p0,c0,hdv,_,_⟩:=hI0
 subst hdv
 refine jA 2 rfl<|la rfl hB ?_
 have:=he.s
 replace hb1:=hb1.m hE
 have:=hb1.lt
 refine WL.l rfl (ll [_]) ?_
 rintro _ w2 ⟨rfl,hb2,e2⟩
 have:=e2.s
 refine jD 6 rfl ?_
 replace hb1:=hb1.m e2
 refine ld rfl hb1 rfl<|jD 18 rfl<|lT rfl rfl<|jD 2 rfl ?_
 replace hI:=hI.m e2
 have hI:=hI.k (B:=fun b=>w.heap.size≤b∧b<w2.heap.size) (fun b hb h=>⟨h,hb⟩)
 have hbO:=iN hb2
 replace hB:=hB.m e2
 replace he:=he.t e2
 refine wo (N0:=w.heap.size) (m:=83) rfl rfl sb hb1 hbO hI hb2.lt hn (by omega) ?_
 have hI1:mS (.mk 5 n t ks o d) (83,aI n 1):=⟨83,rfl,.ulong1 (by omega)⟩
 intro i wj hh;obtain⟨B,cs,nB,hO,hV,oc,hE⟩:=hh
 have nB':w.heap.size≤B:=by omega
 refine jA 3 rfl<|Hq (ae (ak rfl rfl) (br (by(omega))))<|jD 3 rfl ?_
 replace he:=he.t hE
 have:=he.s
 replace hb1:=hb1.m hE
 have:=hb1.lt
 replace hb2:=hb2.m hE
 have:=hb2.lt
 refine WL.l rfl (d8 Fo.h (fun o h=>by cases h)) ?_
 rintro _ w3 ⟨rfl,hm3,e3⟩
 have:=hm3.lt
 have:=e3.s
 refine WL.l0 (aV (l:=[]) Fo.h Fo.h rfl rfl rfl hm3 rfl) ?_
 rintro _ w4 ⟨hm3,e4⟩
 have:=e4.s
 refine WL.l0 (aV (l:=[(4,67)]) Fo.h Fo.h rfl rfl rfl hm3 rfl) ?_
 rintro _ w5 ⟨hm3,e5⟩
 have:=e5.s
 refine jC 2 rfl ?_
 replace hb1:=hb1.m ((e3.t e4).t e5)
 refine ld rfl hb1 rfl<|Hq (gy (b:=68) (cz (l:=[(4,67),(5,68)]) Fo.h Fo.h eo rfl rfl Xr hm3) (by decide))<|Hq (az (cs:=[_,_]) Fo.h rfl rfl)<|WL.l rfl (cZ (vs:=[_]) Fo.h rfl rfl rfl rfl rfl) ?_
 rintro v6 w6 ⟨rfl,hOl,e6⟩
 have hbl6:=hOl.lt _ rfl
 have:=e6.s
 refine jC 1 rfl ?_
 replace hO:=(hO.m ((e3.t e4).t e5)).m e6
 refine WL.l rfl (bz Fo.h rfl rfl hOl (Src.own Fb.h hO (by omega) oc) (by omega) (by simp only[maxLen];omega) (by omega)) ?_
 rintro v7 w7 ⟨hOf,e7⟩
 have:=e7.s
 refine jD 7 rfl<|WC.ret ?_
 have hI2:mS (.mk 5 n t ks o d) (68,[]):=⟨68,rfl,by rw[hz];exact .ulong0⟩
 replace hV:=((hV.m ((e3.t e4).t e5)).m e6).m e7
 replace he:=((he.t ((e3.t e4).t e5)).t e6).t e7
 exact aw rfl ⟨⟨_,⟨fun p hp=>by rcases List.mem_cons.1 hp with e|hp;exact e▸hI2;rcases List.mem_cons.1 hp with e|hp;exact e▸hI1;exact List.mem_singleton.1 hp▸hPI,by simp,by simp,hfull _ (by simp)⟩,ei.own hOf rfl (bg.append (bg.one (p:=(68,[])) bT.nil) (hV.k fun b h=>h.1)) (fun b hb=>by show w.heap.size≤b;omega)⟩,he⟩
end Go.Proofs.LL
