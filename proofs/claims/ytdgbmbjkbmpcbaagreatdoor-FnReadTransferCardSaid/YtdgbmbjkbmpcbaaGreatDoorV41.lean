/- Contracts of functions and own laws. Conditions: those that each theorem states. -/
import Derived.Test.YtdgbmbjkbmpcbaaGreatDoorV40
set_option linter.all false
set_option autoImplicit true
set_option relaxedAutoImplicit true
set_option maxRecDepth 20000
namespace Go.Proofs.LL
open Go Go.Proofs Go.RowKit
set_option maxHeartbeats 4000000
attribute [local irreducible] ar WL WC cq WT WX
theorem AK{A:Prop}(h:A:=by
 rintro _ w3 ⟨hm1,e3⟩
 have:=e3.s
 refine⟨ch,?_⟩
 refine Hy rfl (aq rfl)<|WX.alt ?_ ?_
 ·refine WX.rd rfl rfl (gy (b:=m) (cz Fo.h Fo.h eo rfl rfl Xr hm1) (by first|exact hm|exact hm')) ⟨(((Vd.t e1).t e2).t e3),?_⟩
  refine cx rfl rfl (cJ (k:=1) (by omega) (by omega)) ?_
  rintro v4 w4 ⟨hOb,e4⟩
  obtain⟨q0,c0,hq0,_,_⟩:=hOb.form
  subst hq0
  have hZ1:=hOb.toB (A:=fun b=>w3.heap.size≤b∧b<w4.heap.size) (fun b hb hs=>⟨hb,hs⟩)
  have ns4:=e4.s
  refine⟨ch,?_⟩
  refine Hy rfl (az (cs:=[_,_]) Fo.h rfl rfl)<|WX.l rfl rfl (cZ (vs:=[_]) Fo.h rfl rfl rfl rfl rfl) ?_
  rintro v5 w5 ⟨rfl,hOl,e5⟩
  have hbl5:=hOl.lt _ rfl
  have ns5:=e5.s
  refine⟨ch,?_⟩
  refine WX.l rfl rfl (bz Fo.h rfl rfl hOl (Src.at Fb.h ((((hbO.m Xd).m ((e1.t e2).t e3)).m e4).m e5) rfl rfl) (by omega) (by simp only[maxLen];omega) (by omega)) ?_
  rintro v6 w6 ⟨hO,e6⟩
  have ns6:=e6.s
  refine⟨ch,?_⟩
  refine Hy rfl (ap rfl)<|WX.nil ?_
  replace hT:=((((hT.m Xd).m ((e1.t e2).t e3)).m e4).m e5).m e6
  replace hI:=((((hI.m Xd).m ((e1.t e2).t e3)).m e4).m e5).m e6
  replace hZ1:=(hZ1.m e5).m e6
  exact(h2 _ _ ⟨_,_,(by omega),hO,bg.append (bg.one (p:=(m,aI n 1)) (hZ1.k fun b hb h=>⟨by omega,hb⟩)) (bg.one (p:=(u,aI n s)) (hI.k fun b hb h=>⟨h.1,hb⟩)),rfl,hT.evo⟩) _ sb
 ·refine cx rfl rfl (cJ (k:=1) (by omega) (by omega)) ?_
  rintro v4 w4 ⟨hOb,e4⟩
  obtain⟨q0,c0,hq0,_,_⟩:=hOb.form
  subst hq0
  have hZ1:=hOb.toB (A:=fun b=>w3.heap.size≤b∧b<w4.heap.size) (fun b hb hs=>⟨hb,hs⟩)
  have ns4:=e4.s
  refine⟨ch,?_⟩
  replace hm1:=hm1.m e4
  refine WX.rd rfl rfl (gy (b:=m) (cz Fo.h Fo.h eo rfl rfl Xr hm1) (by first|exact hm|exact hm')) ⟨((((Vd.t e1).t e2).t e3).t e4),?_⟩
  refine Hy rfl (az (cs:=[_,_]) Fo.h rfl rfl)<|WX.l rfl rfl (cZ (vs:=[_]) Fo.h rfl rfl rfl rfl rfl) ?_
  rintro v5 w5 ⟨rfl,hOl,e5⟩
  have hbl5:=hOl.lt _ rfl
  have ns5:=e5.s
  refine⟨ch,?_⟩
  refine WX.l rfl rfl (bz Fo.h rfl rfl hOl (Src.at Fb.h ((((hbO.m Xd).m ((e1.t e2).t e3)).m e4).m e5) rfl rfl) (by omega) (by simp only[maxLen];omega) (by omega)) ?_
  rintro v6 w6 ⟨hO,e6⟩
  have ns6:=e6.s
  refine⟨ch,?_⟩
  refine Hy rfl (ap rfl)<|WX.nil ?_
  replace hT:=((((hT.m Xd).m ((e1.t e2).t e3)).m e4).m e5).m e6
  replace hI:=((((hI.m Xd).m ((e1.t e2).t e3)).m e4).m e5).m e6
  replace hZ1:=(hZ1.m e5).m e6
  exact(h2 _ _ ⟨_,_,(by omega),hO,bg.append (bg.one (p:=(m,aI n 1)) (hZ1.k fun b hb h=>⟨by omega,hb⟩)) (bg.one (p:=(u,aI n s)) (hI.k fun b hb h=>⟨h.1,hb⟩)),rfl,hT.evo⟩) _ sb):A:=h
theorem mc{A:Prop}(h:A:=by
 exact(h2 _ _ ⟨_,_,(by omega),hO,bg.append (bg.one (p:=(m,aI n 1)) (hZ1.k fun b hb h=>⟨by omega,hb⟩)) (bg.one (p:=(u,aI n s)) (hI.k fun b hb h=>⟨h.1,hb⟩)),rfl,hT.evo⟩) _ sb):A:=h
theorem AL{A:Prop}(h:A:=by
 intro i wj hh;obtain⟨B,cs,nB,hO,hV,oc,hE⟩:=hh
 refine fun _ hj=>WC.sub hj ?_
 have nB':w.heap.size≤B:=by omega
 refine jA 5 rfl<|WC.ret ?_
 replace he:=he.t hE
 exact aw rfl ⟨⟨_,⟨fun p hp=>by rcases List.mem_cons.1 hp with e|hp;exact e▸hI1;exact List.mem_singleton.1 hp▸hPI,by simp,by simp,hfull _ (by simp)⟩,ei.own hO rfl (hV.k fun b h=>h.1) (fun b hb=>Nat.le_trans nB' hb)⟩,he⟩):A:=h
theorem AM{A:Prop}(h:A:=by
 intro hsm
 refine WC.skip<|jA 5 rfl<|WC.ret ?_
 replace hI:=hI.m e2
 replace he:=he.t e2
 exact aw rfl ⟨⟨_,⟨fun p hp=>by rw[List.mem_singleton.1 hp];exact hPI,by simp,by simp,hfull _ (by simp)⟩,ei.at1 (iN hb2) hI (by show w.heap.size≤_;omega)⟩,he⟩):A:=h
theorem pJ{n:Nat}(hn:n<18446744073709551616)(h:(decide (-128≤IntKind.i64.wrap (n:Int))&&decide (IntKind.i64.wrap (n:Int)<128))=true):ln n:=by
 simp only[Bool.and_eq_true,decide_eq_true_eq]at h
 unfold ln
 rw[kX]at h
 split at h<;>omega
set_option maxHeartbeats 1000000 in
theorem zw{N0 b g n:Nat}{k m u:Int}{cs:List Value}{dv v2:Value}{X:Exit→Fr→World→Prop}(hm:(dz [(8,84),(9,85)] k).getD 0=m)(hm':(dz [(9,85),(8,84)] k).getD 0=m)(hρ:jZ [(1,.pointer (some ⟨b,0,none⟩)),(2,v2),(3,.int .u64 (n:Int)),(6,.slice (some ⟨g,0,none⟩) 1 1)] ρ)(hb1:aH w b (.int .i64 k::cs))(hbO:At w g 0 [.int .i64 u,dv])(hI:bT (fun b=>N0≤b∧b<w.heap.size) w dv (aI n s))(hg:g<w.heap.size)(hn:n<18446744073709551616)(hN:N0≤w.heap.size)
  (h2:∀i w',(∃B cs,w.heap.size≤B∧aT B 152 2 w' i 2 cs∧bg (fun b=>N0≤b∧b<w'.heap.size) w' [(m,aI n 1),(u,aI n s)] cs∧cs.all (fun v=>v.oneCell')=true∧ay w w')→∀ρ',jZ [(6,i),(1,.pointer (some ⟨b,0,none⟩)),(2,v2),(3,.int .u64 (n:Int))] ρ'→X .normal ρ' w'):WC TP Tryz.f89.ntmps [] (cg Tryz.f89 14) ρ w X:=by
 have hI0:=hI
 obtain⟨p0,c0,hdv,_,_⟩:=hI0
 subst hdv
 refine WC.sub hρ ?_
 have hT:i7 (fun _=>True) w w:=⟨ay.refl _⟩
 refine WC.regionT (.q 4 (.q 5 (.q 7 (.q 11 (.alt (.l 0 (.alt (.l 1 (.alt (.l 2 (.q 3 (.alt (.l 6 (.l 8 (.q 9 (.l 10 (.l 12 (.q 13 (.nil))))))) (.l 8 (.l 6 (.q 9 (.l 10 (.l 12 (.q 13 (.nil)))))))))) (.l 8 (.l 2 (.q 3 (.l 6 (.q 9 (.l 10 (.l 12 (.q 13 (.nil))))))))))) (.alt (.l 2 (.alt (.l 1 (.q 3 (.alt (.l 6 (.l 8 (.q 9 (.l 10 (.l 12 (.q 13 (.nil))))))) (.l 8 (.l 6 (.q 9 (.l 10 (.l 12 (.q 13 (.nil)))))))))) (.l 8 (.l 1 (.q 3 (.l 6 (.q 9 (.l 10 (.l 12 (.q 13 (.nil))))))))))) (.l 8 (.alt (.l 1 (.l 2 (.q 3 (.l 6 (.q 9 (.l 10 (.l 12 (.q 13 (.nil))))))))) (.l 2 (.l 1 (.q 3 (.l 6 (.q 9 (.l 10 (.l 12 (.q 13 (.nil)))))))))))))) (.l 8 (.l 0 (.alt (.l 1 (.l 2 (.q 3 (.l 6 (.q 9 (.l 10 (.l 12 (.q 13 (.nil))))))))) (.l 2 (.l 1 (.q 3 (.l 6 (.q 9 (.l 10 (.l 12 (.q 13 (.nil))))))))))))))))) (ay _) mixed (by kernel_rfl) Xd ?_
 have nd1w:w.drew.heap.size=w.heap.size:=rfl
 refine Hy rfl (aa rfl Fo.h)<|Hx rfl (fun _ hS=>ao Fb.h rfl hS (hb1.get rfl))<|Hy rfl (aq rfl)<|Hy rfl (aq rfl)<|WX.alt ?_ ?_
 ·replace hb1:=hb1.m Xd
  have:=hb1.lt
  refine WX.l rfl rfl (d8 Fo.h (fun o h=>by cases h)) ?_
  rintro _ w1 ⟨rfl,hm1,e1⟩
  have:=hm1.lt
  have ns1:=e1.s
  refine⟨ch,?_⟩
  refine WX.alt ?_ ?_
  ·refine WX.l0 rfl (aV (l:=[]) Fo.h Fo.h rfl rfl rfl hm1 rfl) ?_
   rintro _ w2 ⟨hm1,e2⟩
   have ns2:=e2.s
   refine⟨ch,?_⟩
   refine WX.alt ?_ ?_
   ·refine WX.l0 rfl (aV (l:=[(8,84)]) Fo.h Fo.h rfl rfl rfl hm1 rfl) ?_
    exact AK
   ·refine cx rfl rfl (cJ (k:=1) (by omega) (by omega)) ?_
    rintro v3 w3 ⟨hOb,e3⟩
    obtain⟨q0,c0,hq0,_,_⟩:=hOb.form
    subst hq0
    have hZ1:=hOb.toB (A:=fun b=>w2.heap.size≤b∧b<w3.heap.size) (fun b hb hs=>⟨hb,hs⟩)
    have ns3:=e3.s
    refine⟨ch,?_⟩
    replace hm1:=hm1.m e3
    refine WX.l0 rfl (aV (l:=[(8,84)]) Fo.h Fo.h rfl rfl rfl hm1 rfl) ?_
    rintro _ w4 ⟨hm1,e4⟩
    have ns4:=e4.s
    refine⟨ch,?_⟩
    refine Hy rfl (aq rfl)<|WX.rd rfl rfl (gy (b:=m) (cz Fo.h Fo.h eo rfl rfl Xr hm1) (by first|exact hm|exact hm')) ⟨((((Vd.t e1).t e2).t e3).t e4),?_⟩
    refine Hy rfl (az (cs:=[_,_]) Fo.h rfl rfl)<|WX.l rfl rfl (cZ (vs:=[_]) Fo.h rfl rfl rfl rfl rfl) ?_
    rintro v5 w5 ⟨rfl,hOl,e5⟩
    have hbl5:=hOl.lt _ rfl
    have ns5:=e5.s
    refine⟨ch,?_⟩
    refine WX.l rfl rfl (bz Fo.h rfl rfl hOl (Src.at Fb.h (((((hbO.m Xd).m (e1.t e2)).m e3).m e4).m e5) rfl rfl) (by omega) (by simp only[maxLen];omega) (by omega)) ?_
    rintro v6 w6 ⟨hO,e6⟩
    have ns6:=e6.s
    refine⟨ch,?_⟩
    refine Hy rfl (ap rfl)<|WX.nil ?_
    replace hT:=(((((hT.m Xd).m (e1.t e2)).m e3).m e4).m e5).m e6
    replace hI:=(((((hI.m Xd).m (e1.t e2)).m e3).m e4).m e5).m e6
    replace hZ1:=((hZ1.m e4).m e5).m e6
    exact mc
  ·refine WX.alt ?_ ?_
   ·refine WX.l0 rfl (aV (l:=[]) Fo.h Fo.h rfl rfl rfl hm1 rfl) ?_
    rintro _ w2 ⟨hm1,e2⟩
    have ns2:=e2.s
    refine⟨ch,?_⟩
    refine WX.alt ?_ ?_
    ·refine WX.l0 rfl (aV (l:=[(9,85)]) Fo.h Fo.h rfl rfl rfl hm1 rfl) ?_
     exact AK
    ·refine cx rfl rfl (cJ (k:=1) (by omega) (by omega)) ?_
     rintro v3 w3 ⟨hOb,e3⟩
     obtain⟨q0,c0,hq0,_,_⟩:=hOb.form
     subst hq0
     have hZ1:=hOb.toB (A:=fun b=>w2.heap.size≤b∧b<w3.heap.size) (fun b hb hs=>⟨hb,hs⟩)
     have ns3:=e3.s
     refine⟨ch,?_⟩
     replace hm1:=hm1.m e3
     refine WX.l0 rfl (aV (l:=[(9,85)]) Fo.h Fo.h rfl rfl rfl hm1 rfl) ?_
     rintro _ w4 ⟨hm1,e4⟩
     have ns4:=e4.s
     refine⟨ch,?_⟩
     refine Hy rfl (aq rfl)<|WX.rd rfl rfl (gy (b:=m) (cz Fo.h Fo.h eo rfl rfl Xr hm1) (by first|exact hm|exact hm')) ⟨((((Vd.t e1).t e2).t e3).t e4),?_⟩
     refine Hy rfl (az (cs:=[_,_]) Fo.h rfl rfl)<|WX.l rfl rfl (cZ (vs:=[_]) Fo.h rfl rfl rfl rfl rfl) ?_
     rintro v5 w5 ⟨rfl,hOl,e5⟩
     have hbl5:=hOl.lt _ rfl
     have ns5:=e5.s
     refine⟨ch,?_⟩
     refine WX.l rfl rfl (bz Fo.h rfl rfl hOl (Src.at Fb.h (((((hbO.m Xd).m (e1.t e2)).m e3).m e4).m e5) rfl rfl) (by omega) (by simp only[maxLen];omega) (by omega)) ?_
     rintro v6 w6 ⟨hO,e6⟩
     have ns6:=e6.s
     refine⟨ch,?_⟩
     refine Hy rfl (ap rfl)<|WX.nil ?_
     replace hT:=(((((hT.m Xd).m (e1.t e2)).m e3).m e4).m e5).m e6
     replace hI:=(((((hI.m Xd).m (e1.t e2)).m e3).m e4).m e5).m e6
     replace hZ1:=((hZ1.m e4).m e5).m e6
     exact mc
   ·refine cx rfl rfl (cJ (k:=1) (by omega) (by omega)) ?_
    rintro v2 w2 ⟨hOb,e2⟩
    obtain⟨q0,c0,hq0,_,_⟩:=hOb.form
    subst hq0
    have hZ1:=hOb.toB (A:=fun b=>w1.heap.size≤b∧b<w2.heap.size) (fun b hb hs=>⟨hb,hs⟩)
    have ns2:=e2.s
    refine⟨ch,?_⟩
    refine WX.alt ?_ ?_
    ·replace hm1:=hm1.m e2
     refine WX.l0 rfl (aV (l:=[]) Fo.h Fo.h rfl rfl rfl hm1 rfl) ?_
     rintro _ w3 ⟨hm1,e3⟩
     have ns3:=e3.s
     refine⟨ch,?_⟩
     refine WX.l0 rfl (aV (l:=[(8,84)]) Fo.h Fo.h rfl rfl rfl hm1 rfl) ?_
     rintro _ w4 ⟨hm1,e4⟩
     have ns4:=e4.s
     refine⟨ch,?_⟩
     refine Hy rfl (aq rfl)<|WX.rd rfl rfl (gy (b:=m) (cz Fo.h Fo.h eo rfl rfl Xr hm1) (by first|exact hm|exact hm')) ⟨((((Vd.t e1).t e2).t e3).t e4),?_⟩
     refine Hy rfl (az (cs:=[_,_]) Fo.h rfl rfl)<|WX.l rfl rfl (cZ (vs:=[_]) Fo.h rfl rfl rfl rfl rfl) ?_
     rintro v5 w5 ⟨rfl,hOl,e5⟩
     have hbl5:=hOl.lt _ rfl
     have ns5:=e5.s
     refine⟨ch,?_⟩
     refine WX.l rfl rfl (bz Fo.h rfl rfl hOl (Src.at Fb.h ((((((hbO.m Xd).m e1).m e2).m e3).m e4).m e5) rfl rfl) (by omega) (by simp only[maxLen];omega) (by omega)) ?_
     rintro v6 w6 ⟨hO,e6⟩
     have ns6:=e6.s
     refine⟨ch,?_⟩
     refine Hy rfl (ap rfl)<|WX.nil ?_
     replace hT:=((((((hT.m Xd).m e1).m e2).m e3).m e4).m e5).m e6
     replace hI:=((((((hI.m Xd).m e1).m e2).m e3).m e4).m e5).m e6
     replace hZ1:=(((hZ1.m e3).m e4).m e5).m e6
     exact mc
    ·replace hm1:=hm1.m e2
     refine WX.l0 rfl (aV (l:=[]) Fo.h Fo.h rfl rfl rfl hm1 rfl) ?_
     rintro _ w3 ⟨hm1,e3⟩
     have ns3:=e3.s
     refine⟨ch,?_⟩
     refine WX.l0 rfl (aV (l:=[(9,85)]) Fo.h Fo.h rfl rfl rfl hm1 rfl) ?_
     rintro _ w4 ⟨hm1,e4⟩
     have ns4:=e4.s
     refine⟨ch,?_⟩
     refine Hy rfl (aq rfl)<|WX.rd rfl rfl (gy (b:=m) (cz Fo.h Fo.h eo rfl rfl Xr hm1) (by first|exact hm|exact hm')) ⟨((((Vd.t e1).t e2).t e3).t e4),?_⟩
     refine Hy rfl (az (cs:=[_,_]) Fo.h rfl rfl)<|WX.l rfl rfl (cZ (vs:=[_]) Fo.h rfl rfl rfl rfl rfl) ?_
     rintro v5 w5 ⟨rfl,hOl,e5⟩
     have hbl5:=hOl.lt _ rfl
     have ns5:=e5.s
     refine⟨ch,?_⟩
     refine WX.l rfl rfl (bz Fo.h rfl rfl hOl (Src.at Fb.h ((((((hbO.m Xd).m e1).m e2).m e3).m e4).m e5) rfl rfl) (by omega) (by simp only[maxLen];omega) (by omega)) ?_
     rintro v6 w6 ⟨hO,e6⟩
     have ns6:=e6.s
     refine⟨ch,?_⟩
     refine Hy rfl (ap rfl)<|WX.nil ?_
     replace hT:=((((((hT.m Xd).m e1).m e2).m e3).m e4).m e5).m e6
     replace hI:=((((((hI.m Xd).m e1).m e2).m e3).m e4).m e5).m e6
     replace hZ1:=(((hZ1.m e3).m e4).m e5).m e6
     exact mc
 ·refine cx rfl rfl (cJ (k:=1) (by omega) (by omega)) ?_
  rintro v1 w1 ⟨hOb,e1⟩
  obtain⟨q0,c0,hq0,_,_⟩:=hOb.form
  subst hq0
  have hZ1:=hOb.toB (A:=fun b=>w.heap.size≤b∧b<w1.heap.size) (fun b hb hs=>⟨hb,hs⟩)
  have ns1:=e1.s
  refine⟨ch,?_⟩
  replace hb1:=(hb1.m Xd).m e1
  have:=hb1.lt
  refine WX.l rfl rfl (d8 Fo.h (fun o h=>by cases h)) ?_
  rintro _ w2 ⟨rfl,hm2,e2⟩
  have:=hm2.lt
  have ns2:=e2.s
  refine⟨ch,?_⟩
  refine WX.alt ?_ ?_
  ·refine WX.l0 rfl (aV (l:=[]) Fo.h Fo.h rfl rfl rfl hm2 rfl) ?_
   rintro _ w3 ⟨hm2,e3⟩
   have ns3:=e3.s
   refine⟨ch,?_⟩
   refine WX.l0 rfl (aV (l:=[(8,84)]) Fo.h Fo.h rfl rfl rfl hm2 rfl) ?_
   rintro _ w4 ⟨hm2,e4⟩
   have ns4:=e4.s
   refine⟨ch,?_⟩
   refine Hy rfl (aq rfl)<|WX.rd rfl rfl (gy (b:=m) (cz Fo.h Fo.h eo rfl rfl Xr hm2) (by first|exact hm|exact hm')) ⟨((((Vd.t e1).t e2).t e3).t e4),?_⟩
   refine Hy rfl (az (cs:=[_,_]) Fo.h rfl rfl)<|WX.l rfl rfl (cZ (vs:=[_]) Fo.h rfl rfl rfl rfl rfl) ?_
   rintro v5 w5 ⟨rfl,hOl,e5⟩
   have hbl5:=hOl.lt _ rfl
   have ns5:=e5.s
   refine⟨ch,?_⟩
   refine WX.l rfl rfl (bz Fo.h rfl rfl hOl (Src.at Fb.h ((((hbO.m Xd).m e1).m ((e2.t e3).t e4)).m e5) rfl rfl) (by omega) (by simp only[maxLen];omega) (by omega)) ?_
   rintro v6 w6 ⟨hO,e6⟩
   have ns6:=e6.s
   refine⟨ch,?_⟩
   refine Hy rfl (ap rfl)<|WX.nil ?_
   replace hT:=((((hT.m Xd).m e1).m ((e2.t e3).t e4)).m e5).m e6
   replace hI:=((((hI.m Xd).m e1).m ((e2.t e3).t e4)).m e5).m e6
   replace hZ1:=((hZ1.m ((e2.t e3).t e4)).m e5).m e6
   exact mc
  ·refine WX.l0 rfl (aV (l:=[]) Fo.h Fo.h rfl rfl rfl hm2 rfl) ?_
   rintro _ w3 ⟨hm2,e3⟩
   have ns3:=e3.s
   refine⟨ch,?_⟩
   refine WX.l0 rfl (aV (l:=[(9,85)]) Fo.h Fo.h rfl rfl rfl hm2 rfl) ?_
   rintro _ w4 ⟨hm2,e4⟩
   have ns4:=e4.s
   refine⟨ch,?_⟩
   refine Hy rfl (aq rfl)<|WX.rd rfl rfl (gy (b:=m) (cz Fo.h Fo.h eo rfl rfl Xr hm2) (by first|exact hm|exact hm')) ⟨((((Vd.t e1).t e2).t e3).t e4),?_⟩
   refine Hy rfl (az (cs:=[_,_]) Fo.h rfl rfl)<|WX.l rfl rfl (cZ (vs:=[_]) Fo.h rfl rfl rfl rfl rfl) ?_
   rintro v5 w5 ⟨rfl,hOl,e5⟩
   have hbl5:=hOl.lt _ rfl
   have ns5:=e5.s
   refine⟨ch,?_⟩
   refine WX.l rfl rfl (bz Fo.h rfl rfl hOl (Src.at Fb.h ((((hbO.m Xd).m e1).m ((e2.t e3).t e4)).m e5) rfl rfl) (by omega) (by simp only[maxLen];omega) (by omega)) ?_
   rintro v6 w6 ⟨hO,e6⟩
   have ns6:=e6.s
   refine⟨ch,?_⟩
   refine Hy rfl (ap rfl)<|WX.nil ?_
   replace hT:=((((hT.m Xd).m e1).m ((e2.t e3).t e4)).m e5).m e6
   replace hI:=((((hI.m Xd).m e1).m ((e2.t e3).t e4)).m e5).m e6
   replace hZ1:=((hZ1.m ((e2.t e3).t e4)).m e5).m e6
   exact mc
set_option maxHeartbeats 1000000 in
theorem E9{k:Int}{s:Nat}{u:UInt8}{o:Int}{cx:List Value}(hx:aC A w (.mk k n t ks o d) cx)(hc:gJ k=(u.toNat:Int))(hs:vU k=(s:Int))(hs8:s≤8)(hP:Pc (.mk k n t ks o d) u (aI n s))(hn:n<18446744073709551616)(hk:k=8):
  ah TP 89 [.agg cx.toArray] w fun r w'=>iZ w.heap.size (.mk k n t ks o d) r w'∧ay w w':=by
 have hfull:∀ps:List ie,(gJ k,aI n s)∈ps→dp (V.mk k n t ks o d).kind→∃p∈ps,p.1=gJ (V.mk k n t ks o d).kind:=fun ps h _=>⟨_,h,rfl⟩
 have hPI:mS (.mk k n t ks o d) ((u.toNat:Int),aI n s):=⟨u,rfl,hP⟩
 rw[hc]at hfull
 subst hk
 obtain⟨pk,ck,pd,cd,rfl,_,_,_,_⟩:=hx.openV
 refine aR Tryz.func89 ?_
 have he:=XI w
 refine jA 2 rfl ?_
 have:=he.s
 refine Hb rfl fun w1 hb1 e1=>?_
 have:=hb1.lt
 have:=e1.s
 refine jC 2 rfl<|WC.seq<|WC.regionD (tt [0,1,2,3,4,5,6]) (ay _) mixed (by kernel_rfl) Xd ?_
 have nd1w1:w1.drew.heap.size=w1.heap.size:=rfl
 refine jE 1 rfl<|dl rfl hb1 rfl<|jE 1 rfl<|dl rfl hb1 rfl<|He (fun _ hS=>aL Fo.h rfl)<|jE 2 rfl<|WD.nil ?_
 replace hb1:=hb1.m Xd
 replace he:=(he.t e1).t Xd
 refine WC.seq<|rg (N0:=w.heap.size) sb hb1 hc hs hs8 hn (by omega) ?_
 intro i wj hh;obtain⟨dv,hB,od,hI,hE⟩:=hh
 replace he:=he.t hE
 have:=he.s
 have:=hB.lt
 have hI0:=hI
 obtain⟨p0,c0,hdv,_,_⟩:=hI0
 subst hdv
 refine jA 2 rfl<|la rfl hB ?_
 have:=he.s
 replace hb1:=hb1.m hE
 have:=hb1.lt
 refine WL.l rfl (ll [_]) ?_
 rintro _ w2 ⟨rfl,hb2,e2⟩
 have:=e2.s
 refine jC 2 rfl<|jA 4 rfl ?_
 replace hb1:=hb1.m e2
 refine ld rfl hb1 rfl<|WL.nil<|jA 25 rfl<|Hq (bK rfl rfl)<|jC 1 rfl<|Hc rfl rfl (fun hc=>aq rfl)<|Hc rfl rfl (fun hc=>ef (au hc) rfl)<|Hq (bU rfl rfl (fun h=>beq_iff_eq.2 h))<|WL.nil<|WC.cond rfl ?_ ?_
 ·intro hsm
  have hI1:mS (.mk 8 n t ks o d) (84,aI n 1):=⟨84,rfl,.int1 (pJ hn hsm)⟩
  replace hI:=hI.m e2
  have hI:=hI.k (B:=fun b=>w.heap.size≤b∧b<w2.heap.size) (fun b hb h=>⟨h,hb⟩)
  have hbO:=iN hb2
  replace hB:=hB.m e2
  replace he:=he.t e2
  refine zw (N0:=w.heap.size) (m:=84) rfl rfl sb hb1 hbO hI hb2.lt hn (by omega) ?_
  exact AL
 ·exact AM
set_option maxHeartbeats 1000000 in
theorem Fa{k:Int}{s:Nat}{u:UInt8}{o:Int}{cx:List Value}(hx:aC A w (.mk k n t ks o d) cx)(hc:gJ k=(u.toNat:Int))(hs:vU k=(s:Int))(hs8:s≤8)(hP:Pc (.mk k n t ks o d) u (aI n s))(hn:n<18446744073709551616)(hk:k=9):
  ah TP 89 [.agg cx.toArray] w fun r w'=>iZ w.heap.size (.mk k n t ks o d) r w'∧ay w w':=by
 have hfull:∀ps:List ie,(gJ k,aI n s)∈ps→dp (V.mk k n t ks o d).kind→∃p∈ps,p.1=gJ (V.mk k n t ks o d).kind:=fun ps h _=>⟨_,h,rfl⟩
 have hPI:mS (.mk k n t ks o d) ((u.toNat:Int),aI n s):=⟨u,rfl,hP⟩
 rw[hc]at hfull
 subst hk
 obtain⟨pk,ck,pd,cd,rfl,_,_,_,_⟩:=hx.openV
 refine aR Tryz.func89 ?_
 have he:=XI w
 refine jA 2 rfl ?_
 have:=he.s
 refine Hb rfl fun w1 hb1 e1=>?_
 have:=hb1.lt
 have:=e1.s
 refine jC 2 rfl<|WC.seq<|WC.regionD (tt [0,1,2,3,4,5,6]) (ay _) mixed (by kernel_rfl) Xd ?_
 have nd1w1:w1.drew.heap.size=w1.heap.size:=rfl
 refine jE 1 rfl<|dl rfl hb1 rfl<|jE 1 rfl<|dl rfl hb1 rfl<|He (fun _ hS=>aL Fo.h rfl)<|jE 2 rfl<|WD.nil ?_
 replace hb1:=hb1.m Xd
 replace he:=(he.t e1).t Xd
 refine WC.seq<|rg (N0:=w.heap.size) sb hb1 hc hs hs8 hn (by omega) ?_
 intro i wj hh;obtain⟨dv,hB,od,hI,hE⟩:=hh
 replace he:=he.t hE
 have:=he.s
 have:=hB.lt
 have hI0:=hI
 obtain⟨p0,c0,hdv,_,_⟩:=hI0
 subst hdv
 refine jA 2 rfl<|la rfl hB ?_
 have:=he.s
 replace hb1:=hb1.m hE
 have:=hb1.lt
 refine WL.l rfl (ll [_]) ?_
 rintro _ w2 ⟨rfl,hb2,e2⟩
 have:=e2.s
 refine jC 2 rfl<|jA 4 rfl ?_
 replace hb1:=hb1.m e2
 refine ld rfl hb1 rfl<|WL.nil<|jA 28 rfl<|Hq (bK rfl rfl)<|jC 1 rfl<|Hc rfl rfl (fun hc=>aq rfl)<|Hc rfl rfl (fun hc=>ef (au hc) rfl)<|Hq (bU rfl rfl (fun h=>beq_iff_eq.2 h))<|WL.nil<|WC.cond rfl ?_ ?_
 ·intro hsm
  have hI1:mS (.mk 9 n t ks o d) (85,aI n 1):=⟨85,rfl,.long1 (pJ hn hsm)⟩
  replace hI:=hI.m e2
  have hI:=hI.k (B:=fun b=>w.heap.size≤b∧b<w2.heap.size) (fun b hb h=>⟨h,hb⟩)
  have hbO:=iN hb2
  replace hB:=hB.m e2
  replace he:=he.t e2
  refine zw (N0:=w.heap.size) (m:=85) rfl rfl sb hb1 hbO hI hb2.lt hn (by omega) ?_
  exact AL
 ·exact AM
theorem sW{k:Int}{o:Int}{cx:List Value}(hx:aC A w (.mk k n t ks o d) cx)(hk:(2≤k∧k≤11)∨k=16)(hn:n<18446744073709551616):
  ah TP 89 [.agg cx.toArray] w fun r w'=>iZ w.heap.size (.mk k n t ks o d) r w'∧ay w w':=by
 rcases(show k=2∨k=3∨k=4∨k=5∨k=6∨k=7∨k=8∨k=9∨k=10∨k=11∨k=16 by omega)with rfl|rfl|rfl|rfl|rfl|rfl|rfl|rfl|rfl|rfl|rfl
 ·exact fm (u:=0x50) (s:=1) hx (by decide) (by decide) (by omega) (.num rfl) hn (by omega)
 ·exact fm (u:=0x60) (s:=2) hx (by decide) (by decide) (by omega) (.num rfl) hn (by omega)
 ·rcases Nat.lt_or_ge n 256 with h|h
  ·rcases Nat.eq_zero_or_pos n with h0|h0
   ·exact uK (u:=0x70) (s:=4) hx (by decide) (by decide) (by omega) (.num rfl) hn rfl h0
   ·exact sU (u:=0x70) (s:=4) hx (by decide) (by decide) (by omega) (.num rfl) hn rfl h h0
  ·exact xK (u:=0x70) (s:=4) hx (by decide) (by decide) (by omega) (.num rfl) hn rfl h
 ·rcases Nat.lt_or_ge n 256 with h|h
  ·rcases Nat.eq_zero_or_pos n with h0|h0
   ·exact uL (u:=0x80) (s:=8) hx (by decide) (by decide) (by omega) (.num rfl) hn rfl h0
   ·exact sV (u:=0x80) (s:=8) hx (by decide) (by decide) (by omega) (.num rfl) hn rfl h h0
  ·exact xL (u:=0x80) (s:=8) hx (by decide) (by decide) (by omega) (.num rfl) hn rfl h
 ·exact fm (u:=0x51) (s:=1) hx (by decide) (by decide) (by omega) (.num rfl) hn (by omega)
 ·exact fm (u:=0x61) (s:=2) hx (by decide) (by decide) (by omega) (.num rfl) hn (by omega)
 ·exact E9 (u:=0x71) (s:=4) hx (by decide) (by decide) (by omega) (.num rfl) hn rfl
 ·exact Fa (u:=0x81) (s:=8) hx (by decide) (by decide) (by omega) (.num rfl) hn rfl
 ·exact fm (u:=0x72) (s:=4) hx (by decide) (by decide) (by omega) (.num rfl) hn (by omega)
 ·exact fm (u:=0x82) (s:=8) hx (by decide) (by decide) (by omega) (.num rfl) hn (by omega)
 ·exact fm (u:=0x83) (s:=8) hx (by decide) (by decide) (by omega) (.num rfl) hn (by omega)
end Go.Proofs.LL
namespace Go.Proofs.LL
open Go Go.Proofs Go.RowKit
set_option maxHeartbeats 4000000
attribute [local irreducible] ar WL WC cq WT WX
theorem gf{A:Prop}(h:A:=by
 intro A n t ks o d cx fb w hx hn h1 ht
 have hx0:=hx
 obtain⟨pk,ck,pd,cd,rfl,_,_,_,_⟩:=hx0.openV
 refine aR Tryz.func62 ?_
 refine jA 2 rfl<|Hb rfl fun w1 hb1 e1=>?_
 have:=hb1.lt
 have:=e1.s
 refine jD 6 rfl<|ld rfl hb1 rfl<|jD 63 rfl<|jA 2 rfl<|Hq (ad Fo.h rfl Xr hb1.at (hn:=rfl)) ?_
 replace hx:=hx.m e1
 refine cl rfl (sW hx (by omega) hn) ?_
 rintro v2 w2 ⟨⟨ps,hG,hX⟩,e2⟩
 have:=e2.s
 refine jC 2 rfl<|WC.ret ?_
 exact aw rfl ⟨⟨ps,hG,hX.low fun b h=>by show w.heap.size≤b;omega⟩,ch⟩):A:=h
theorem AN{A:Prop}(h:A:=by
 exact aw rfl ⟨⟨[(152,t)],⟨fun p hp=>by rw[List.mem_singleton.1 hp];exact⟨0x98,rfl,.uuid⟩,by simp,by simp,fun _=>⟨_,List.mem_singleton.2 rfl,(by show(152:Int)=gJ 17;decide)⟩⟩,ei.at1 (iN hb4) hZ1 (by show w.heap.size≤_;omega)⟩,ch⟩):A:=h
theorem ei.lit{ps:List ie}(h:At w b 0 cs)(hn:ps.length=n)(hV:bg A w ps cs)(hA:A b):ei A w ps (.slice (some ⟨b,0,none⟩) n n):=by
 subst hn
 exact⟨_,_,_,rfl,Nat.le_refl _,hV,.inr ⟨b,0,rfl,hA,h⟩⟩
theorem nK{s l:Int}{p:ie}(h:p∈gi s l d none):(p=(s,txt 1 d)∧d.length<256)∨p=(l,txt 4 d):=by
 simp only[gi,fx]at h
 rcases List.mem_append.1 h with h|h
 ·split at h
  ·cases h
  ·rename_i hq
   exact .inl ⟨by simpa[txt]using h,by simp at hq;omega⟩
 ·split at h
  ·cases h
  ·exact .inr (by simpa[txt]using h)
theorem fk{s l:Int}:(l,txt 4 d)∈gi s l d none:=by
 simp only[gi,fx]
 refine List.mem_append.2 (.inr ?_)
 rw[if_neg (by omega)]
 simp[txt]
theorem fX{s l:Int}{c:Option Nat}:(gi s l d c).length≤2:=by
 unfold gi fx
 cases c<;>simp only[]<;>(repeat' split)<;>simp
theorem bT.s2b{A:Nat→Prop}(hb:cR w b 0 t)(hc:t.length≤c)(hA:A b):bT A w (.slice (some ⟨b,0,none⟩) t.length c) t:=⟨_,_,rfl,hc,fun _=>⟨b,0,rfl,hA,hb⟩⟩
def iP(k:Int):Prop:=∀(A:Nat→Prop) (n:Nat) (t:List UInt8) (ks:List V) (o:Int) (d:List V) (cx:List Value) (fb:Nat) (w:World),aC A w (.mk k n t ks o d) cx→n<18446744073709551616→(k=1→n≤1)→t.length≤1000000000→
 ah TP 62 [.pointer (some ⟨fb,0,none⟩),.agg cx.toArray] w fun r w'=>iZ w.heap.size (.mk k n t ks o d) r w'∧ay w w'
theorem Ff:iP 0:=by
 intro A n t ks o d cx fb w hx hn h1 ht
 obtain⟨pk,ck,pd,cd,rfl,_,_,_,_⟩:=hx.openV
 refine aR Tryz.func62 ?_
 refine jA 2 rfl<|Hb rfl fun w1 hb1 e1=>?_
 have:=hb1.lt
 have:=e1.s
 refine jD 6 rfl<|ld rfl hb1 rfl<|jD 10 rfl<|Hq (az (cs:=[_,_]) Fo.h rfl rfl) ?_
 have:=hb1.lt
 refine WL.l rfl (ll [_]) ?_
 rintro _ w2 ⟨rfl,hb2,e2⟩
 have:=e2.s
 refine jC 2 rfl<|WC.ret ?_
 exact aw rfl ⟨⟨[(0x40,[])],⟨fun p hp=>by rw[List.mem_singleton.1 hp];exact⟨0x40,rfl,.null⟩,by simp,by simp,fun h=>by simp[dp,V.kind]at h⟩,ei.at1 (iN hb2) bT.nil (by show w.heap.size≤_;omega)⟩,ch⟩
theorem Fg:iP 1:=by
 intro A n t ks o d cx fb w hx hn h1 ht
 obtain⟨pk,ck,pd,cd,rfl,_,_,_,_⟩:=hx.openV
 have hB1:∀ {A:Nat→Prop} {w:World} {b:Nat} {z:Nat},aH w b (([.int .u8 (IntKind.u8.wrap (z:Int))]:List Value).flatMap (fun v=>v.cells.toList))→z≤1→A b→bT A w (.slice (some ⟨b,0,none⟩) 1 1) [UInt8.ofNat z]:=fun {A w b z} h hz hA=>
  ⟨_,_,rfl,Nat.le_refl _,fun _=>⟨b,0,rfl,hA,fun j hj=>by
   have hj0:j=0:=by simpa using hj
   subst hj0
   have h2:=(show aH w b [.int .u8 (IntKind.u8.wrap (z:Int))]from h).get (j:=0) rfl
   rw[h2]
   rcases(show z=0∨z=1 by omega)with rfl|rfl<;>rfl⟩⟩
 rcases(show n=0∨n=1 by have:=h1 rfl;omega)with rfl|rfl
 ·refine aR Tryz.func62 ?_
  refine jA 2 rfl<|Hb rfl fun w1 hb1 e1=>?_
  have nx1:=hb1.lt
  have ns1:=e1.s
  refine jD 6 rfl<|ld rfl hb1 rfl<|jD 17 rfl<|ld rfl hb1 rfl<|Hq (aL Fo.h rfl)<|Hq (bP (c:=66) rfl rfl (by decide) (by decide) (by decide))<|Hq (az (cs:=[_,_]) Fo.h rfl rfl)<|jC 1 rfl<|ld rfl hb1 rfl<|Hq (aL Fo.h rfl) ?_
  have hx2b1:=hb1.lt
  refine WL.l rfl (ll [_]) ?_
  rintro _ w2 ⟨rfl,hb2,e2⟩
  have ns2:=e2.s
  refine Hq (az (cs:=[_,_]) Fo.h rfl rfl) ?_
  replace hb1:=hb1.m e2
  have hx3b1:=hb1.lt
  have hx3b2:=hb2.lt
  refine WL.l rfl (ll [_,_]) ?_
  rintro _ w3 ⟨rfl,hb3,e3⟩
  have ns3:=e3.s
  refine jC 2 rfl<|WC.ret ?_
  replace hb2:=hb2.m e3
  have hI:=hB1 (A:=fun b=>w.heap.size≤b) (z:=0) hb2 (by omega) (by show w.heap.size≤_;omega)
  exact aw rfl ⟨⟨[(66,[]),(0x56,[UInt8.ofNat 0])],⟨fun p hp=>by rcases List.mem_cons.1 hp with e|hp;exact e▸⟨66,rfl,.ff⟩;exact List.mem_singleton.1 hp▸⟨0x56,rfl,.bool (by omega)⟩,by simp,by simp,fun _=>⟨(0x56,[UInt8.ofNat 0]),by simp,(by show(86:Int)=gJ 1;decide)⟩⟩,ei.lit (vT hb3) rfl (bg.append (bg.one (p:=(66,[])) bT.nil) (bg.one (p:=(0x56,[UInt8.ofNat 0])) hI)) (by show w.heap.size≤_;omega)⟩,ch⟩
 ·refine aR Tryz.func62 ?_
  refine jA 2 rfl<|Hb rfl fun w1 hb1 e1=>?_
  have nx1:=hb1.lt
  have ns1:=e1.s
  refine jD 6 rfl<|ld rfl hb1 rfl<|jD 17 rfl<|ld rfl hb1 rfl<|Hq (aL Fo.h rfl)<|Hq (bP (c:=65) rfl rfl (by decide) (by decide) (by decide))<|Hq (az (cs:=[_,_]) Fo.h rfl rfl)<|jC 1 rfl<|ld rfl hb1 rfl<|Hq (aL Fo.h rfl) ?_
  have hx2b1:=hb1.lt
  refine WL.l rfl (ll [_]) ?_
  rintro _ w2 ⟨rfl,hb2,e2⟩
  have ns2:=e2.s
  refine Hq (az (cs:=[_,_]) Fo.h rfl rfl) ?_
  replace hb1:=hb1.m e2
  have hx3b1:=hb1.lt
  have hx3b2:=hb2.lt
  refine WL.l rfl (ll [_,_]) ?_
  rintro _ w3 ⟨rfl,hb3,e3⟩
  have ns3:=e3.s
  refine jC 2 rfl<|WC.ret ?_
  replace hb2:=hb2.m e3
  have hI:=hB1 (A:=fun b=>w.heap.size≤b) (z:=1) hb2 (by omega) (by show w.heap.size≤_;omega)
  exact aw rfl ⟨⟨[(65,[]),(0x56,[UInt8.ofNat 1])],⟨fun p hp=>by rcases List.mem_cons.1 hp with e|hp;exact e▸⟨65,rfl,.tt⟩;exact List.mem_singleton.1 hp▸⟨0x56,rfl,.bool (by omega)⟩,by simp,by simp,fun _=>⟨(0x56,[UInt8.ofNat 1]),by simp,(by show(86:Int)=gJ 1;decide)⟩⟩,ei.lit (vT hb3) rfl (bg.append (bg.one (p:=(65,[])) bT.nil) (bg.one (p:=(0x56,[UInt8.ofNat 1])) hI)) (by show w.heap.size≤_;omega)⟩,ch⟩
theorem Fh:iP 2:=by
 exact gf
theorem Fi:iP 3:=by
 exact gf
theorem Fj:iP 4:=by
 exact gf
theorem Fk:iP 5:=by
 exact gf
theorem Fl:iP 6:=by
 exact gf
theorem Fp:iP 7:=by
 exact gf
theorem Fq:iP 8:=by
 exact gf
theorem Fs:iP 9:=by
 exact gf
theorem DY:iP 10:=by
 exact gf
theorem DZ:iP 11:=by
 exact gf
theorem D0:iP 16:=by
 exact gf
theorem D1:iP 17:=by
 intro A n t ks o d cx fb w hx hn h1 ht
 obtain⟨pk,ck,pd,cd,rfl,_,_,_,_⟩:=hx.openV
 refine aR Tryz.func62 ?_
 refine jA 2 rfl<|Hb rfl fun w1 hb1 e1=>?_
 have:=hb1.lt
 have:=e1.s
 refine jD 6 rfl<|ld rfl hb1 rfl<|jD 26 rfl<|WC.seq<|WC.regionT (.q 0 (.q 1 (.q 3 (.q 4 (.alt (.l 2 (.l 5 (.q 6 (.l 7 (.q 8 (.nil)))))) (.l 5 (.l 2 (.q 6 (.l 7 (.q 8 (.nil))))))))))) (ay _) mixed (by kernel_rfl) Xd ?_
 have nd1w1:w1.drew.heap.size=w1.heap.size:=rfl
 refine Hy rfl (aa rfl Fo.h)<|Hx rfl (fun _ hS=>ao Fb.h rfl hS (hb1.get rfl))<|Hy rfl (aa rfl Fo.h)<|Hx rfl (fun _ hS=>ao Fb.h rfl hS (hb1.get rfl))<|WX.alt ?_ ?_
 ·refine LL.cx rfl rfl (kS (k:=17) (s:=152) (by decide)) ?_
  rintro v2 w2 ⟨rfl,e2⟩
  have ns2:=e2.s
  refine⟨LL.ch,?_⟩
  refine WX.l rfl rfl (sO Fb.h Fb.h rfl) ?_
  rintro v3 w3 ⟨⟨c,rfl,qc⟩,hBy,ql,e3⟩
  have hZ1:=bT.s2b (A:=fun b=>w.heap.size≤b) hBy qc (by show w.heap.size≤_;omega)
  have ns3:=e3.s
  refine⟨LL.ch,?_⟩
  refine Hy rfl (az (cs:=[_,_]) Fo.h rfl rfl) ?_
  replace hb1:=((hb1.m Xd).m e2).m e3
  have hx4b1:=hb1.lt
  refine WX.l rfl rfl (ll [_]) ?_
  rintro _ w4 ⟨rfl,hb4,e4⟩
  have ns4:=e4.s
  refine⟨LL.ch,?_⟩
  refine Hy rfl (ap rfl)<|WX.nil<|WC.ret ?_
  replace hZ1:=hZ1.m e4
  exact AN
 ·refine WX.l rfl rfl (sO Fb.h Fb.h rfl) ?_
  rintro v2 w2 ⟨⟨c,rfl,qc⟩,hBy,ql,e2⟩
  have hZ1:=bT.s2b (A:=fun b=>w.heap.size≤b) hBy qc (by show w.heap.size≤_;omega)
  have ns2:=e2.s
  refine⟨LL.ch,?_⟩
  refine LL.cx rfl rfl (kS (k:=17) (s:=152) (by decide)) ?_
  rintro v3 w3 ⟨rfl,e3⟩
  have ns3:=e3.s
  refine⟨LL.ch,?_⟩
  refine Hy rfl (az (cs:=[_,_]) Fo.h rfl rfl) ?_
  replace hb1:=((hb1.m Xd).m e2).m e3
  have hx4b1:=hb1.lt
  refine WX.l rfl rfl (ll [_]) ?_
  rintro _ w4 ⟨rfl,hb4,e4⟩
  have ns4:=e4.s
  refine⟨LL.ch,?_⟩
  refine Hy rfl (ap rfl)<|WX.nil<|WC.ret ?_
  replace hZ1:=(hZ1.m e3).m e4
  exact AN
theorem D2:iP 18:=by
 intro A n t ks o d cx fb w hx hn h1 ht
 obtain⟨pk,ck,pd,cd,rfl,_,_,_,_⟩:=hx.openV
 refine aR Tryz.func62 ?_
 refine jA 2 rfl<|Hb rfl fun w1 hb1 e1=>?_
 have nx1:=hb1.lt
 have ns1:=e1.s
 refine jD 6 rfl<|ld rfl hb1 rfl<|jD 35 rfl<|ld rfl hb1 rfl<|WL.l rfl (sO Fb.h Fb.h rfl) ?_
 rintro v2 w2 ⟨⟨c,rfl,qc⟩,hBy,ql,e2⟩
 have hZ1:=bT.s2b (A:=fun _=>True) hBy qc trivial
 have ns2:=e2.s
 refine cl rfl (dW (c:=none) (d:=t) hZ1 ht (fun n h=>by cases h)) ?_
 rintro v3 w3 ⟨hO,e3⟩
 have ns3:=e3.s
 refine jC 2 rfl<|WC.ret ?_
 have hX:=hO.toX
 exact aw rfl ⟨⟨_,⟨fun p hp=>by rcases nK hp with⟨e,h⟩|e;exact e▸⟨160,rfl,.bin1 h⟩;exact e▸⟨176,rfl,.bin4 (by omega)⟩,Nat.le_trans fX (by omega),fun e=>(by have:=fk (s:=160) (l:=176) (d:=t);rw[e]at this;cases this),fun _=>⟨_,fk,(by show(176:Int)=gJ 18;decide)⟩⟩,hX.low fun b h=>by show w.heap.size≤b;omega⟩,ch⟩
theorem D3:iP 19:=by
 intro A n t ks o d cx fb w hx hn h1 ht
 obtain⟨pk,ck,pd,cd,rfl,_,_,_,_⟩:=hx.openV
 refine aR Tryz.func62 ?_
 refine jA 2 rfl<|Hb rfl fun w1 hb1 e1=>?_
 have nx1:=hb1.lt
 have ns1:=e1.s
 refine jD 6 rfl<|ld rfl hb1 rfl<|jD 41 rfl<|ld rfl hb1 rfl<|WL.l rfl (sO Fb.h Fb.h rfl) ?_
 rintro v2 w2 ⟨⟨c,rfl,qc⟩,hBy,ql,e2⟩
 have hZ1:=bT.s2b (A:=fun _=>True) hBy qc trivial
 have ns2:=e2.s
 refine cl rfl (dW (c:=none) (d:=t) hZ1 ht (fun n h=>by cases h)) ?_
 rintro v3 w3 ⟨hO,e3⟩
 have ns3:=e3.s
 refine jC 2 rfl<|WC.ret ?_
 have hX:=hO.toX
 exact aw rfl ⟨⟨_,⟨fun p hp=>by rcases nK hp with⟨e,h⟩|e;exact e▸⟨161,rfl,.str1 h⟩;exact e▸⟨177,rfl,.str4 (by omega)⟩,Nat.le_trans fX (by omega),fun e=>(by have:=fk (s:=161) (l:=177) (d:=t);rw[e]at this;cases this),fun _=>⟨_,fk,(by show(177:Int)=gJ 19;decide)⟩⟩,hX.low fun b h=>by show w.heap.size≤b;omega⟩,ch⟩
theorem D4:iP 20:=by
 intro A n t ks o d cx fb w hx hn h1 ht
 obtain⟨pk,ck,pd,cd,rfl,_,_,_,_⟩:=hx.openV
 refine aR Tryz.func62 ?_
 refine jA 2 rfl<|Hb rfl fun w1 hb1 e1=>?_
 have nx1:=hb1.lt
 have ns1:=e1.s
 refine jD 6 rfl<|ld rfl hb1 rfl<|jD 47 rfl<|ld rfl hb1 rfl<|WL.l rfl (sO Fb.h Fb.h rfl) ?_
 rintro v2 w2 ⟨⟨c,rfl,qc⟩,hBy,ql,e2⟩
 have hZ1:=bT.s2b (A:=fun _=>True) hBy qc trivial
 have ns2:=e2.s
 refine cl rfl (dW (c:=none) (d:=t) hZ1 ht (fun n h=>by cases h)) ?_
 rintro v3 w3 ⟨hO,e3⟩
 have ns3:=e3.s
 refine jC 2 rfl<|WC.ret ?_
 have hX:=hO.toX
 exact aw rfl ⟨⟨_,⟨fun p hp=>by rcases nK hp with⟨e,h⟩|e;exact e▸⟨163,rfl,.sym1 h⟩;exact e▸⟨179,rfl,.sym4 (by omega)⟩,Nat.le_trans fX (by omega),fun e=>(by have:=fk (s:=163) (l:=179) (d:=t);rw[e]at this;cases this),fun _=>⟨_,fk,(by show(179:Int)=gJ 20;decide)⟩⟩,hX.low fun b h=>by show w.heap.size≤b;omega⟩,ch⟩
theorem mx{k:Int}(h:(0≤k∧k≤11)∨(16≤k∧k≤20)):iP k:=by
 rcases(show k=0∨k=1∨k=2∨k=3∨k=4∨k=5∨k=6∨k=7∨k=8∨k=9∨k=10∨k=11∨k=16∨k=17∨k=18∨k=19∨k=20 by omega)with rfl|rfl|rfl|rfl|rfl|rfl|rfl|rfl|rfl|rfl|rfl|rfl|rfl|rfl|rfl|rfl|rfl
 ·exact Ff
 ·exact Fg
 ·exact Fh
 ·exact Fi
 ·exact Fj
 ·exact Fk
 ·exact Fl
 ·exact Fp
 ·exact Fq
 ·exact Fs
 ·exact DY
 ·exact DZ
 ·exact D0
 ·exact D1
 ·exact D2
 ·exact D3
 ·exact D4
end Go.Proofs.LL
