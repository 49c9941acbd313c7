/- Own laws of frames, operations and loops, and contracts of functions of the program. Conditions: those that each theorem states. -/
import Derived.Test.YtdgbmbjkbmpcbaaGreatDoorV40
set_option linter.all false
set_option maxRecDepth 20000
namespace Go.Proofs.LL
open Go Go.Proofs Go.RowKit
set_option maxHeartbeats 4000000
attribute [local irreducible] RunOp WL WC WDL WT WX
theorem mE{A:Prop}(h:A:=by
 rintro _ w3 ⟨hm1,e3⟩
 have ns3:=e3.size
 refine⟨ch,?_⟩
 refine WX.q rfl rfl (fun _ hS=>r_move rfl) ?_
 refine WX.alt ?_ ?_
 ·refine WX.rd rfl rfl (r_as (b:=m) (r_lookI Fo.h Fo.h aV rfl rfl (Ext.refl _) hm1) (by first|exact hm|exact hm')) ⟨((((Evo.drew _).then e1).then e2).then e3),?_⟩
  refine cx rfl rfl (aC (k:=1) (by omega) (by omega)) ?_
  rintro v4 w4 ⟨hOb,e4⟩
  obtain⟨q0,c0,hq0,_,_⟩:=hOb.form
  subst hq0
  have hZ1:=hOb.toB (A:=fun b=>w3.heap.size≤b∧b<w4.heap.size) (fun b hb hs=>⟨hb,hs⟩)
  have ns4:=e4.size
  refine⟨ch,?_⟩
  refine WX.q rfl rfl (fun _ hS=>r_bld (cs:=[_,_]) Fo.h rfl rfl) ?_
  refine WX.l rfl rfl (l_litO (vs:=[_]) Fo.h rfl rfl rfl rfl rfl) ?_
  rintro v5 w5 ⟨rfl,hOl,e5⟩
  have hbl5:=hOl.lt _ rfl
  have ns5:=e5.size
  refine⟨ch,?_⟩
  refine WX.l rfl rfl (l_app Fo.h rfl rfl hOl (Src.at Fb.h ((((hbO.mono (Ext.drew _)).mono ((e1.then e2).then e3)).mono e4).mono e5) rfl rfl) (by omega) (by simp only[maxLen];omega) (by omega)) ?_
  rintro v6 w6 ⟨hO,e6⟩
  have ns6:=e6.size
  refine⟨ch,?_⟩
  refine WX.q rfl rfl (fun _ hS=>r_assign rfl) ?_
  refine WX.nil ?_
  replace hT:=((((hT.mono (Ext.drew _)).mono ((e1.then e2).then e3)).mono e4).mono e5).mono e6
  replace hI:=((((hI.mono (Ext.drew _)).mono ((e1.then e2).then e3)).mono e4).mono e5).mono e6
  replace hZ1:=(hZ1.mono e5).mono e6
  exact(h2 _ _ ⟨_,_,(by omega),hO,am.append (am.one (p:=(m,bigB n 1)) (hZ1.weaken fun b hb h=>⟨by omega,hb⟩)) (am.one (p:=(u,bigB n s)) (hI.weaken fun b hb h=>⟨h.1,hb⟩)),rfl,hT.evo⟩) _ sb
 ·refine cx rfl rfl (aC (k:=1) (by omega) (by omega)) ?_
  rintro v4 w4 ⟨hOb,e4⟩
  obtain⟨q0,c0,hq0,_,_⟩:=hOb.form
  subst hq0
  have hZ1:=hOb.toB (A:=fun b=>w3.heap.size≤b∧b<w4.heap.size) (fun b hb hs=>⟨hb,hs⟩)
  have ns4:=e4.size
  refine⟨ch,?_⟩
  replace hm1:=hm1.mono e4
  refine WX.rd rfl rfl (r_as (b:=m) (r_lookI Fo.h Fo.h aV rfl rfl (Ext.refl _) hm1) (by first|exact hm|exact hm')) ⟨(((((Evo.drew _).then e1).then e2).then e3).then e4),?_⟩
  refine WX.q rfl rfl (fun _ hS=>r_bld (cs:=[_,_]) Fo.h rfl rfl) ?_
  refine WX.l rfl rfl (l_litO (vs:=[_]) Fo.h rfl rfl rfl rfl rfl) ?_
  rintro v5 w5 ⟨rfl,hOl,e5⟩
  have hbl5:=hOl.lt _ rfl
  have ns5:=e5.size
  refine⟨ch,?_⟩
  refine WX.l rfl rfl (l_app Fo.h rfl rfl hOl (Src.at Fb.h ((((hbO.mono (Ext.drew _)).mono ((e1.then e2).then e3)).mono e4).mono e5) rfl rfl) (by omega) (by simp only[maxLen];omega) (by omega)) ?_
  rintro v6 w6 ⟨hO,e6⟩
  have ns6:=e6.size
  refine⟨ch,?_⟩
  refine WX.q rfl rfl (fun _ hS=>r_assign rfl) ?_
  refine WX.nil ?_
  replace hT:=((((hT.mono (Ext.drew _)).mono ((e1.then e2).then e3)).mono e4).mono e5).mono e6
  replace hI:=((((hI.mono (Ext.drew _)).mono ((e1.then e2).then e3)).mono e4).mono e5).mono e6
  replace hZ1:=(hZ1.mono e5).mono e6
  exact(h2 _ _ ⟨_,_,(by omega),hO,am.append (am.one (p:=(m,bigB n 1)) (hZ1.weaken fun b hb h=>⟨by omega,hb⟩)) (am.one (p:=(u,bigB n s)) (hI.weaken fun b hb h=>⟨h.1,hb⟩)),rfl,hT.evo⟩) _ sb):A:=h
theorem dO{A:Prop}(h:A:=by
 exact(h2 _ _ ⟨_,_,(by omega),hO,am.append (am.one (p:=(m,bigB n 1)) (hZ1.weaken fun b hb h=>⟨by omega,hb⟩)) (am.one (p:=(u,bigB n s)) (hI.weaken fun b hb h=>⟨h.1,hb⟩)),rfl,hT.evo⟩) _ sb):A:=h
theorem lZ{A:Prop}(h:A:=by
 intro i wj hh;obtain⟨B,cs,nB,hO,hV,oc,hE⟩:=hh
 refine fun _ hj=>WC.sub hj ?_
 have nB':w.heap.size≤B:=by omega
 refine jA 5 rfl<|WC.ret ?_
 replace he:=he.then hE
 exact fin1 rfl ⟨⟨_,⟨fun p hp=>by rcases List.mem_cons.1 hp with e|hp;exact e▸hI1;exact List.mem_singleton.1 hp▸hPI,by simp,by simp,hfull _ (by simp)⟩,aX.own hO rfl (hV.weaken fun b h=>h.1) (fun b hb=>Nat.le_trans nB' hb)⟩,he⟩):A:=h
theorem mC{A:Prop}(h:A:=by
 intro hsm
 refine WC.skip<|jA 5 rfl<|WC.ret ?_
 replace hI:=hI.mono e2
 replace he:=he.then e2
 exact fin1 rfl ⟨⟨_,⟨fun p hp=>by rw[List.mem_singleton.1 hp];exact hPI,by simp,by simp,hfull _ (by simp)⟩,aX.at1 (ct hb2) hI (by show w.heap.size≤_;omega)⟩,he⟩):A:=h
theorem fI{n:Nat}(hn:n<18446744073709551616)(h:(decide (-128≤IntKind.i64.wrap (n:Int))&&decide (IntKind.i64.wrap (n:Int)<128))=true):small n:=by
 simp only[Bool.and_eq_true,decide_eq_true_eq]at h
 unfold small
 rw[dG]at h
 split at h<;>omega
set_option maxHeartbeats 1000000 in
theorem k5{N0 b g n s:Nat}{k m u:Int}{cs:List Value}{dv v2:Value}{ρ:Fr}{w:World}{X:Exit→Fr→World→Prop}(hm:(tabI [(8,84),(9,85)] k).getD 0=m)(hm':(tabI [(9,85),(8,84)] k).getD 0=m)(hρ:Sub [(1,.pointer (some ⟨b,0,none⟩)),(2,v2),(3,.int .u64 (n:Int)),(6,.slice (some ⟨g,0,none⟩) 1 1)] ρ)(hb1:Blk w b (.int .i64 k::cs))(hbO:At w g 0 [.int .i64 u,dv])(hI:IsB (fun b=>N0≤b∧b<w.heap.size) w dv (bigB n s))(hg:g<w.heap.size)(hn:n<18446744073709551616)(hN:N0≤w.heap.size)
  (h2:∀i w',(∃B cs,w.heap.size≤B∧Own B 152 2 w' i 2 cs∧am (fun b=>N0≤b∧b<w'.heap.size) w' [(m,bigB n 1),(u,bigB n s)] cs∧cs.all (fun v=>v.oneCell')=true∧Ext w w')→∀ρ',Sub [(6,i),(1,.pointer (some ⟨b,0,none⟩)),(2,v2),(3,.int .u64 (n:Int))] ρ'→X .normal ρ' w'):WC TP Tryz.f89.ntmps [] (cg Tryz.f89 14) ρ w X:=by
 have hI0:=hI
 obtain⟨p0,c0,hdv,_,_⟩:=hI0
 subst hdv
 refine WC.sub hρ ?_
 have hT:cq (fun _=>True) w w:=⟨Ext.refl _⟩
 refine WC.regionT (.q 4 (.q 5 (.q 7 (.q 11 (.alt (.l 0 (.alt (.l 1 (.alt (.l 2 (.q 3 (.alt (.l 6 (.l 8 (.q 9 (.l 10 (.l 12 (.q 13 (.nil))))))) (.l 8 (.l 6 (.q 9 (.l 10 (.l 12 (.q 13 (.nil)))))))))) (.l 8 (.l 2 (.q 3 (.l 6 (.q 9 (.l 10 (.l 12 (.q 13 (.nil))))))))))) (.alt (.l 2 (.alt (.l 1 (.q 3 (.alt (.l 6 (.l 8 (.q 9 (.l 10 (.l 12 (.q 13 (.nil))))))) (.l 8 (.l 6 (.q 9 (.l 10 (.l 12 (.q 13 (.nil)))))))))) (.l 8 (.l 1 (.q 3 (.l 6 (.q 9 (.l 10 (.l 12 (.q 13 (.nil))))))))))) (.l 8 (.alt (.l 1 (.l 2 (.q 3 (.l 6 (.q 9 (.l 10 (.l 12 (.q 13 (.nil))))))))) (.l 2 (.l 1 (.q 3 (.l 6 (.q 9 (.l 10 (.l 12 (.q 13 (.nil)))))))))))))) (.l 8 (.l 0 (.alt (.l 1 (.l 2 (.q 3 (.l 6 (.q 9 (.l 10 (.l 12 (.q 13 (.nil))))))))) (.l 2 (.l 1 (.q 3 (.l 6 (.q 9 (.l 10 (.l 12 (.q 13 (.nil))))))))))))))))) (Ext _) mixed (by kernel_rfl) (Ext.drew _) ?_
 have nd1w:w.drew.heap.size=w.heap.size:=rfl
 refine WX.q rfl rfl (fun _ hS=>r_fieldAddr rfl Fo.h) ?_
 refine WX.q rfl rfl (fun _ hS=>r_load Fb.h rfl hS (hb1.get rfl)) ?_
 refine WX.q rfl rfl (fun _ hS=>r_move rfl) ?_
 refine WX.q rfl rfl (fun _ hS=>r_move rfl) ?_
 refine WX.alt ?_ ?_
 ·replace hb1:=hb1.mono (Ext.drew _)
  have hx1b1:=hb1.lt
  refine WX.l rfl rfl (l_mkMap Fo.h (fun o h=>by cases h)) ?_
  rintro _ w1 ⟨rfl,hm1,e1⟩
  have nx1:=hm1.lt
  have ns1:=e1.size
  refine⟨ch,?_⟩
  refine WX.alt ?_ ?_
  ·refine WX.l0 rfl (l_ins (l:=[]) Fo.h Fo.h rfl rfl rfl hm1 rfl) ?_
   rintro _ w2 ⟨hm1,e2⟩
   have ns2:=e2.size
   refine⟨ch,?_⟩
   refine WX.alt ?_ ?_
   ·refine WX.l0 rfl (l_ins (l:=[(8,84)]) Fo.h Fo.h rfl rfl rfl hm1 rfl) ?_
    exact mE
   ·refine cx rfl rfl (aC (k:=1) (by omega) (by omega)) ?_
    rintro v3 w3 ⟨hOb,e3⟩
    obtain⟨q0,c0,hq0,_,_⟩:=hOb.form
    subst hq0
    have hZ1:=hOb.toB (A:=fun b=>w2.heap.size≤b∧b<w3.heap.size) (fun b hb hs=>⟨hb,hs⟩)
    have ns3:=e3.size
    refine⟨ch,?_⟩
    replace hm1:=hm1.mono e3
    refine WX.l0 rfl (l_ins (l:=[(8,84)]) Fo.h Fo.h rfl rfl rfl hm1 rfl) ?_
    rintro _ w4 ⟨hm1,e4⟩
    have ns4:=e4.size
    refine⟨ch,?_⟩
    refine WX.q rfl rfl (fun _ hS=>r_move rfl) ?_
    refine WX.rd rfl rfl (r_as (b:=m) (r_lookI Fo.h Fo.h aV rfl rfl (Ext.refl _) hm1) (by first|exact hm|exact hm')) ⟨(((((Evo.drew _).then e1).then e2).then e3).then e4),?_⟩
    refine WX.q rfl rfl (fun _ hS=>r_bld (cs:=[_,_]) Fo.h rfl rfl) ?_
    refine WX.l rfl rfl (l_litO (vs:=[_]) Fo.h rfl rfl rfl rfl rfl) ?_
    rintro v5 w5 ⟨rfl,hOl,e5⟩
    have hbl5:=hOl.lt _ rfl
    have ns5:=e5.size
    refine⟨ch,?_⟩
    refine WX.l rfl rfl (l_app Fo.h rfl rfl hOl (Src.at Fb.h (((((hbO.mono (Ext.drew _)).mono (e1.then e2)).mono e3).mono e4).mono e5) rfl rfl) (by omega) (by simp only[maxLen];omega) (by omega)) ?_
    rintro v6 w6 ⟨hO,e6⟩
    have ns6:=e6.size
    refine⟨ch,?_⟩
    refine WX.q rfl rfl (fun _ hS=>r_assign rfl) ?_
    refine WX.nil ?_
    replace hT:=(((((hT.mono (Ext.drew _)).mono (e1.then e2)).mono e3).mono e4).mono e5).mono e6
    replace hI:=(((((hI.mono (Ext.drew _)).mono (e1.then e2)).mono e3).mono e4).mono e5).mono e6
    replace hZ1:=((hZ1.mono e4).mono e5).mono e6
    exact dO
  ·refine WX.alt ?_ ?_
   ·refine WX.l0 rfl (l_ins (l:=[]) Fo.h Fo.h rfl rfl rfl hm1 rfl) ?_
    rintro _ w2 ⟨hm1,e2⟩
    have ns2:=e2.size
    refine⟨ch,?_⟩
    refine WX.alt ?_ ?_
    ·refine WX.l0 rfl (l_ins (l:=[(9,85)]) Fo.h Fo.h rfl rfl rfl hm1 rfl) ?_
     exact mE
    ·refine cx rfl rfl (aC (k:=1) (by omega) (by omega)) ?_
     rintro v3 w3 ⟨hOb,e3⟩
     obtain⟨q0,c0,hq0,_,_⟩:=hOb.form
     subst hq0
     have hZ1:=hOb.toB (A:=fun b=>w2.heap.size≤b∧b<w3.heap.size) (fun b hb hs=>⟨hb,hs⟩)
     have ns3:=e3.size
     refine⟨ch,?_⟩
     replace hm1:=hm1.mono e3
     refine WX.l0 rfl (l_ins (l:=[(9,85)]) Fo.h Fo.h rfl rfl rfl hm1 rfl) ?_
     rintro _ w4 ⟨hm1,e4⟩
     have ns4:=e4.size
     refine⟨ch,?_⟩
     refine WX.q rfl rfl (fun _ hS=>r_move rfl) ?_
     refine WX.rd rfl rfl (r_as (b:=m) (r_lookI Fo.h Fo.h aV rfl rfl (Ext.refl _) hm1) (by first|exact hm|exact hm')) ⟨(((((Evo.drew _).then e1).then e2).then e3).then e4),?_⟩
     refine WX.q rfl rfl (fun _ hS=>r_bld (cs:=[_,_]) Fo.h rfl rfl) ?_
     refine WX.l rfl rfl (l_litO (vs:=[_]) Fo.h rfl rfl rfl rfl rfl) ?_
     rintro v5 w5 ⟨rfl,hOl,e5⟩
     have hbl5:=hOl.lt _ rfl
     have ns5:=e5.size
     refine⟨ch,?_⟩
     refine WX.l rfl rfl (l_app Fo.h rfl rfl hOl (Src.at Fb.h (((((hbO.mono (Ext.drew _)).mono (e1.then e2)).mono e3).mono e4).mono e5) rfl rfl) (by omega) (by simp only[maxLen];omega) (by omega)) ?_
     rintro v6 w6 ⟨hO,e6⟩
     have ns6:=e6.size
     refine⟨ch,?_⟩
     refine WX.q rfl rfl (fun _ hS=>r_assign rfl) ?_
     refine WX.nil ?_
     replace hT:=(((((hT.mono (Ext.drew _)).mono (e1.then e2)).mono e3).mono e4).mono e5).mono e6
     replace hI:=(((((hI.mono (Ext.drew _)).mono (e1.then e2)).mono e3).mono e4).mono e5).mono e6
     replace hZ1:=((hZ1.mono e4).mono e5).mono e6
     exact dO
   ·refine cx rfl rfl (aC (k:=1) (by omega) (by omega)) ?_
    rintro v2 w2 ⟨hOb,e2⟩
    obtain⟨q0,c0,hq0,_,_⟩:=hOb.form
    subst hq0
    have hZ1:=hOb.toB (A:=fun b=>w1.heap.size≤b∧b<w2.heap.size) (fun b hb hs=>⟨hb,hs⟩)
    have ns2:=e2.size
    refine⟨ch,?_⟩
    refine WX.alt ?_ ?_
    ·replace hm1:=hm1.mono e2
     refine WX.l0 rfl (l_ins (l:=[]) Fo.h Fo.h rfl rfl rfl hm1 rfl) ?_
     rintro _ w3 ⟨hm1,e3⟩
     have ns3:=e3.size
     refine⟨ch,?_⟩
     refine WX.l0 rfl (l_ins (l:=[(8,84)]) Fo.h Fo.h rfl rfl rfl hm1 rfl) ?_
     rintro _ w4 ⟨hm1,e4⟩
     have ns4:=e4.size
     refine⟨ch,?_⟩
     refine WX.q rfl rfl (fun _ hS=>r_move rfl) ?_
     refine WX.rd rfl rfl (r_as (b:=m) (r_lookI Fo.h Fo.h aV rfl rfl (Ext.refl _) hm1) (by first|exact hm|exact hm')) ⟨(((((Evo.drew _).then e1).then e2).then e3).then e4),?_⟩
     refine WX.q rfl rfl (fun _ hS=>r_bld (cs:=[_,_]) Fo.h rfl rfl) ?_
     refine WX.l rfl rfl (l_litO (vs:=[_]) Fo.h rfl rfl rfl rfl rfl) ?_
     rintro v5 w5 ⟨rfl,hOl,e5⟩
     have hbl5:=hOl.lt _ rfl
     have ns5:=e5.size
     refine⟨ch,?_⟩
     refine WX.l rfl rfl (l_app Fo.h rfl rfl hOl (Src.at Fb.h ((((((hbO.mono (Ext.drew _)).mono e1).mono e2).mono e3).mono e4).mono e5) rfl rfl) (by omega) (by simp only[maxLen];omega) (by omega)) ?_
     rintro v6 w6 ⟨hO,e6⟩
     have ns6:=e6.size
     refine⟨ch,?_⟩
     refine WX.q rfl rfl (fun _ hS=>r_assign rfl) ?_
     refine WX.nil ?_
     replace hT:=((((((hT.mono (Ext.drew _)).mono e1).mono e2).mono e3).mono e4).mono e5).mono e6
     replace hI:=((((((hI.mono (Ext.drew _)).mono e1).mono e2).mono e3).mono e4).mono e5).mono e6
     replace hZ1:=(((hZ1.mono e3).mono e4).mono e5).mono e6
     exact dO
    ·replace hm1:=hm1.mono e2
     refine WX.l0 rfl (l_ins (l:=[]) Fo.h Fo.h rfl rfl rfl hm1 rfl) ?_
     rintro _ w3 ⟨hm1,e3⟩
     have ns3:=e3.size
     refine⟨ch,?_⟩
     refine WX.l0 rfl (l_ins (l:=[(9,85)]) Fo.h Fo.h rfl rfl rfl hm1 rfl) ?_
     rintro _ w4 ⟨hm1,e4⟩
     have ns4:=e4.size
     refine⟨ch,?_⟩
     refine WX.q rfl rfl (fun _ hS=>r_move rfl) ?_
     refine WX.rd rfl rfl (r_as (b:=m) (r_lookI Fo.h Fo.h aV rfl rfl (Ext.refl _) hm1) (by first|exact hm|exact hm')) ⟨(((((Evo.drew _).then e1).then e2).then e3).then e4),?_⟩
     refine WX.q rfl rfl (fun _ hS=>r_bld (cs:=[_,_]) Fo.h rfl rfl) ?_
     refine WX.l rfl rfl (l_litO (vs:=[_]) Fo.h rfl rfl rfl rfl rfl) ?_
     rintro v5 w5 ⟨rfl,hOl,e5⟩
     have hbl5:=hOl.lt _ rfl
     have ns5:=e5.size
     refine⟨ch,?_⟩
     refine WX.l rfl rfl (l_app Fo.h rfl rfl hOl (Src.at Fb.h ((((((hbO.mono (Ext.drew _)).mono e1).mono e2).mono e3).mono e4).mono e5) rfl rfl) (by omega) (by simp only[maxLen];omega) (by omega)) ?_
     rintro v6 w6 ⟨hO,e6⟩
     have ns6:=e6.size
     refine⟨ch,?_⟩
     refine WX.q rfl rfl (fun _ hS=>r_assign rfl) ?_
     refine WX.nil ?_
     replace hT:=((((((hT.mono (Ext.drew _)).mono e1).mono e2).mono e3).mono e4).mono e5).mono e6
     replace hI:=((((((hI.mono (Ext.drew _)).mono e1).mono e2).mono e3).mono e4).mono e5).mono e6
     replace hZ1:=(((hZ1.mono e3).mono e4).mono e5).mono e6
     exact dO
 ·refine cx rfl rfl (aC (k:=1) (by omega) (by omega)) ?_
  rintro v1 w1 ⟨hOb,e1⟩
  obtain⟨q0,c0,hq0,_,_⟩:=hOb.form
  subst hq0
  have hZ1:=hOb.toB (A:=fun b=>w.heap.size≤b∧b<w1.heap.size) (fun b hb hs=>⟨hb,hs⟩)
  have ns1:=e1.size
  refine⟨ch,?_⟩
  replace hb1:=(hb1.mono (Ext.drew _)).mono e1
  have hx2b1:=hb1.lt
  refine WX.l rfl rfl (l_mkMap Fo.h (fun o h=>by cases h)) ?_
  rintro _ w2 ⟨rfl,hm2,e2⟩
  have nx2:=hm2.lt
  have ns2:=e2.size
  refine⟨ch,?_⟩
  refine WX.alt ?_ ?_
  ·refine WX.l0 rfl (l_ins (l:=[]) Fo.h Fo.h rfl rfl rfl hm2 rfl) ?_
   rintro _ w3 ⟨hm2,e3⟩
   have ns3:=e3.size
   refine⟨ch,?_⟩
   refine WX.l0 rfl (l_ins (l:=[(8,84)]) Fo.h Fo.h rfl rfl rfl hm2 rfl) ?_
   rintro _ w4 ⟨hm2,e4⟩
   have ns4:=e4.size
   refine⟨ch,?_⟩
   refine WX.q rfl rfl (fun _ hS=>r_move rfl) ?_
   refine WX.rd rfl rfl (r_as (b:=m) (r_lookI Fo.h Fo.h aV rfl rfl (Ext.refl _) hm2) (by first|exact hm|exact hm')) ⟨(((((Evo.drew _).then e1).then e2).then e3).then e4),?_⟩
   refine WX.q rfl rfl (fun _ hS=>r_bld (cs:=[_,_]) Fo.h rfl rfl) ?_
   refine WX.l rfl rfl (l_litO (vs:=[_]) Fo.h rfl rfl rfl rfl rfl) ?_
   rintro v5 w5 ⟨rfl,hOl,e5⟩
   have hbl5:=hOl.lt _ rfl
   have ns5:=e5.size
   refine⟨ch,?_⟩
   refine WX.l rfl rfl (l_app Fo.h rfl rfl hOl (Src.at Fb.h ((((hbO.mono (Ext.drew _)).mono e1).mono ((e2.then e3).then e4)).mono e5) rfl rfl) (by omega) (by simp only[maxLen];omega) (by omega)) ?_
   rintro v6 w6 ⟨hO,e6⟩
   have ns6:=e6.size
   refine⟨ch,?_⟩
   refine WX.q rfl rfl (fun _ hS=>r_assign rfl) ?_
   refine WX.nil ?_
   replace hT:=((((hT.mono (Ext.drew _)).mono e1).mono ((e2.then e3).then e4)).mono e5).mono e6
   replace hI:=((((hI.mono (Ext.drew _)).mono e1).mono ((e2.then e3).then e4)).mono e5).mono e6
   replace hZ1:=((hZ1.mono ((e2.then e3).then e4)).mono e5).mono e6
   exact dO
  ·refine WX.l0 rfl (l_ins (l:=[]) Fo.h Fo.h rfl rfl rfl hm2 rfl) ?_
   rintro _ w3 ⟨hm2,e3⟩
   have ns3:=e3.size
   refine⟨ch,?_⟩
   refine WX.l0 rfl (l_ins (l:=[(9,85)]) Fo.h Fo.h rfl rfl rfl hm2 rfl) ?_
   rintro _ w4 ⟨hm2,e4⟩
   have ns4:=e4.size
   refine⟨ch,?_⟩
   refine WX.q rfl rfl (fun _ hS=>r_move rfl) ?_
   refine WX.rd rfl rfl (r_as (b:=m) (r_lookI Fo.h Fo.h aV rfl rfl (Ext.refl _) hm2) (by first|exact hm|exact hm')) ⟨(((((Evo.drew _).then e1).then e2).then e3).then e4),?_⟩
   refine WX.q rfl rfl (fun _ hS=>r_bld (cs:=[_,_]) Fo.h rfl rfl) ?_
   refine WX.l rfl rfl (l_litO (vs:=[_]) Fo.h rfl rfl rfl rfl rfl) ?_
   rintro v5 w5 ⟨rfl,hOl,e5⟩
   have hbl5:=hOl.lt _ rfl
   have ns5:=e5.size
   refine⟨ch,?_⟩
   refine WX.l rfl rfl (l_app Fo.h rfl rfl hOl (Src.at Fb.h ((((hbO.mono (Ext.drew _)).mono e1).mono ((e2.then e3).then e4)).mono e5) rfl rfl) (by omega) (by simp only[maxLen];omega) (by omega)) ?_
   rintro v6 w6 ⟨hO,e6⟩
   have ns6:=e6.size
   refine⟨ch,?_⟩
   refine WX.q rfl rfl (fun _ hS=>r_assign rfl) ?_
   refine WX.nil ?_
   replace hT:=((((hT.mono (Ext.drew _)).mono e1).mono ((e2.then e3).then e4)).mono e5).mono e6
   replace hI:=((((hI.mono (Ext.drew _)).mono e1).mono ((e2.then e3).then e4)).mono e5).mono e6
   replace hZ1:=((hZ1.mono ((e2.then e3).then e4)).mono e5).mono e6
   exact dO
set_option maxHeartbeats 1000000 in
theorem qo{A:Nat→Prop}{k:Int}{n s:Nat}{u:UInt8}{t:List UInt8}{ks:List V}{o:Int}{d:List V}{cx:List Value}{w:World}(hx:ag A w (.mk k n t ks o d) cx)(hc:bU k=(u.toNat:Int))(hs:j9 k=(s:Int))(hs8:s≤8)(hP:Pc (.mk k n t ks o d) u (bigB n s))(hn:n<18446744073709551616)(hk:k=8):
  Does TP 89 [.agg cx.toArray] w fun r w'=>cD w.heap.size (.mk k n t ks o d) r w'∧Ext w w':=by
 have hfull:∀ps:List cj,(bU k,bigB n s)∈ps→arrK (V.mk k n t ks o d).kind→∃p∈ps,p.1=bU (V.mk k n t ks o d).kind:=fun ps h _=>⟨_,h,rfl⟩
 have hPI:eP (.mk k n t ks o d) ((u.toNat:Int),bigB n s):=⟨u,rfl,hP⟩
 rw[hc]at hfull
 subst hk
 obtain⟨pk,ck,pd,cd,rfl,_,_,_,_⟩:=hx.openV
 refine do1 Tryz.func89 ?_
 have he:Evo (fun _=>True) w w:=Evo.refl w
 refine jA 2 rfl ?_
 have hs1:=he.size
 refine bx rfl ?_
 rintro _ w1 ⟨rfl,hb1,e1⟩
 have nx1:=hb1.lt
 have ns1:=e1.size
 refine jC 2 rfl ?_
 refine WC.seq<|WC.regionD (tt [0,1,2,3,4,5,6]) (Ext _) mixed (by kernel_rfl) (Ext.drew _) ?_
 have nd1w1:w1.drew.heap.size=w1.heap.size:=rfl
 refine jE 1 rfl<|dl rfl hb1 rfl<|jE 1 rfl<|dl rfl hb1 rfl ?_
 refine WD.q rfl (fun _ hS=>r_cvInt Fo.h rfl) ?_
 refine jE 2 rfl<|WD.nil ?_
 replace hb1:=hb1.mono (Ext.drew _)
 replace he:=(he.then e1).then (Ext.drew _)
 refine WC.seq<|f9 (N0:=w.heap.size) sb hb1 hc hs hs8 hn (by omega) ?_
 intro i wj hh;obtain⟨dv,hB,od,hI,hE⟩:=hh
 replace he:=he.then hE
 have nh:=he.size
 have nx0:=hB.lt
 have hI0:=hI
 obtain⟨p0,c0,hdv,_,_⟩:=hI0
 subst hdv
 refine jA 2 rfl<|la rfl hB ?_
 have hs2:=he.size
 replace hb1:=hb1.mono hE
 have hx2b1:=hb1.lt
 refine WL.l rfl (ll [_]) ?_
 rintro _ w2 ⟨rfl,hb2,e2⟩
 have ns2:=e2.size
 refine jC 2 rfl<|jA 4 rfl ?_
 replace hb1:=hb1.mono e2
 refine ld rfl hb1 rfl<|WL.nil<|jA 25 rfl<|WL.q rfl (r_geq rfl rfl)<|jC 1 rfl ?_
 refine WL.qc rfl rfl rfl rfl (fun hc=>r_move rfl) ?_
 refine WL.qc rfl rfl rfl rfl (fun hc=>r_lss (cnd_of hc) rfl) ?_
 refine WL.q rfl (r_and rfl rfl (fun h=>beq_iff_eq.2 h)) ?_
 refine WL.nil ?_
 refine WC.cond rfl ?_ ?_
 ·intro hsm
  have hI1:eP (.mk 8 n t ks o d) (84,bigB n 1):=⟨84,rfl,.int1 (fI hn hsm)⟩
  replace hI:=hI.mono e2
  have hI:=hI.weaken (B:=fun b=>w.heap.size≤b∧b<w2.heap.size) (fun b hb h=>⟨h,hb⟩)
  have hbO:=ct hb2
  replace hB:=hB.mono e2
  replace he:=he.then e2
  refine k5 (N0:=w.heap.size) (m:=84) rfl rfl sb hb1 hbO hI hb2.lt hn (by omega) ?_
  exact lZ
 ·exact mC
set_option maxHeartbeats 1000000 in
theorem rl{A:Nat→Prop}{k:Int}{n s:Nat}{u:UInt8}{t:List UInt8}{ks:List V}{o:Int}{d:List V}{cx:List Value}{w:World}(hx:ag A w (.mk k n t ks o d) cx)(hc:bU k=(u.toNat:Int))(hs:j9 k=(s:Int))(hs8:s≤8)(hP:Pc (.mk k n t ks o d) u (bigB n s))(hn:n<18446744073709551616)(hk:k=9):
  Does TP 89 [.agg cx.toArray] w fun r w'=>cD w.heap.size (.mk k n t ks o d) r w'∧Ext w w':=by
 have hfull:∀ps:List cj,(bU k,bigB n s)∈ps→arrK (V.mk k n t ks o d).kind→∃p∈ps,p.1=bU (V.mk k n t ks o d).kind:=fun ps h _=>⟨_,h,rfl⟩
 have hPI:eP (.mk k n t ks o d) ((u.toNat:Int),bigB n s):=⟨u,rfl,hP⟩
 rw[hc]at hfull
 subst hk
 obtain⟨pk,ck,pd,cd,rfl,_,_,_,_⟩:=hx.openV
 refine do1 Tryz.func89 ?_
 have he:Evo (fun _=>True) w w:=Evo.refl w
 refine jA 2 rfl ?_
 have hs1:=he.size
 refine bx rfl ?_
 rintro _ w1 ⟨rfl,hb1,e1⟩
 have nx1:=hb1.lt
 have ns1:=e1.size
 refine jC 2 rfl ?_
 refine WC.seq<|WC.regionD (tt [0,1,2,3,4,5,6]) (Ext _) mixed (by kernel_rfl) (Ext.drew _) ?_
 have nd1w1:w1.drew.heap.size=w1.heap.size:=rfl
 refine jE 1 rfl<|dl rfl hb1 rfl<|jE 1 rfl<|dl rfl hb1 rfl ?_
 refine WD.q rfl (fun _ hS=>r_cvInt Fo.h rfl) ?_
 refine jE 2 rfl<|WD.nil ?_
 replace hb1:=hb1.mono (Ext.drew _)
 replace he:=(he.then e1).then (Ext.drew _)
 refine WC.seq<|f9 (N0:=w.heap.size) sb hb1 hc hs hs8 hn (by omega) ?_
 intro i wj hh;obtain⟨dv,hB,od,hI,hE⟩:=hh
 replace he:=he.then hE
 have nh:=he.size
 have nx0:=hB.lt
 have hI0:=hI
 obtain⟨p0,c0,hdv,_,_⟩:=hI0
 subst hdv
 refine jA 2 rfl<|la rfl hB ?_
 have hs2:=he.size
 replace hb1:=hb1.mono hE
 have hx2b1:=hb1.lt
 refine WL.l rfl (ll [_]) ?_
 rintro _ w2 ⟨rfl,hb2,e2⟩
 have ns2:=e2.size
 refine jC 2 rfl<|jA 4 rfl ?_
 replace hb1:=hb1.mono e2
 refine ld rfl hb1 rfl<|WL.nil<|jA 28 rfl<|WL.q rfl (r_geq rfl rfl)<|jC 1 rfl ?_
 refine WL.qc rfl rfl rfl rfl (fun hc=>r_move rfl) ?_
 refine WL.qc rfl rfl rfl rfl (fun hc=>r_lss (cnd_of hc) rfl) ?_
 refine WL.q rfl (r_and rfl rfl (fun h=>beq_iff_eq.2 h)) ?_
 refine WL.nil ?_
 refine WC.cond rfl ?_ ?_
 ·intro hsm
  have hI1:eP (.mk 9 n t ks o d) (85,bigB n 1):=⟨85,rfl,.long1 (fI hn hsm)⟩
  replace hI:=hI.mono e2
  have hI:=hI.weaken (B:=fun b=>w.heap.size≤b∧b<w2.heap.size) (fun b hb h=>⟨h,hb⟩)
  have hbO:=ct hb2
  replace hB:=hB.mono e2
  replace he:=he.then e2
  refine k5 (N0:=w.heap.size) (m:=85) rfl rfl sb hb1 hbO hI hb2.lt hn (by omega) ?_
  exact lZ
 ·exact mC
theorem il{A:Nat→Prop}{k:Int}{n:Nat}{t:List UInt8}{ks:List V}{o:Int}{d:List V}{cx:List Value}{w:World}(hx:ag A w (.mk k n t ks o d) cx)(hk:(2≤k∧k≤11)∨k=16)(hn:n<18446744073709551616):
  Does TP 89 [.agg cx.toArray] w fun r w'=>cD w.heap.size (.mk k n t ks o d) r w'∧Ext w w':=by
 rcases(show k=2∨k=3∨k=4∨k=5∨k=6∨k=7∨k=8∨k=9∨k=10∨k=11∨k=16 by omega)with rfl|rfl|rfl|rfl|rfl|rfl|rfl|rfl|rfl|rfl|rfl
 ·exact bj (u:=0x50) (s:=1) hx (by decide) (by decide) (by omega) (.num rfl) hn (by omega)
 ·exact bj (u:=0x60) (s:=2) hx (by decide) (by decide) (by omega) (.num rfl) hn (by omega)
 ·rcases Nat.lt_or_ge n 256 with h|h
  ·rcases Nat.eq_zero_or_pos n with h0|h0
   ·exact iW (u:=0x70) (s:=4) hx (by decide) (by decide) (by omega) (.num rfl) hn rfl h0
   ·exact iJ (u:=0x70) (s:=4) hx (by decide) (by decide) (by omega) (.num rfl) hn rfl h h0
  ·exact ku (u:=0x70) (s:=4) hx (by decide) (by decide) (by omega) (.num rfl) hn rfl h
 ·rcases Nat.lt_or_ge n 256 with h|h
  ·rcases Nat.eq_zero_or_pos n with h0|h0
   ·exact jR (u:=0x80) (s:=8) hx (by decide) (by decide) (by omega) (.num rfl) hn rfl h0
   ·exact ia (u:=0x80) (s:=8) hx (by decide) (by decide) (by omega) (.num rfl) hn rfl h h0
  ·exact kM (u:=0x80) (s:=8) hx (by decide) (by decide) (by omega) (.num rfl) hn rfl h
 ·exact bj (u:=0x51) (s:=1) hx (by decide) (by decide) (by omega) (.num rfl) hn (by omega)
 ·exact bj (u:=0x61) (s:=2) hx (by decide) (by decide) (by omega) (.num rfl) hn (by omega)
 ·exact qo (u:=0x71) (s:=4) hx (by decide) (by decide) (by omega) (.num rfl) hn rfl
 ·exact rl (u:=0x81) (s:=8) hx (by decide) (by decide) (by omega) (.num rfl) hn rfl
 ·exact bj (u:=0x72) (s:=4) hx (by decide) (by decide) (by omega) (.num rfl) hn (by omega)
 ·exact bj (u:=0x82) (s:=8) hx (by decide) (by decide) (by omega) (.num rfl) hn (by omega)
 ·exact bj (u:=0x83) (s:=8) hx (by decide) (by decide) (by omega) (.num rfl) hn (by omega)
end Go.Proofs.LL
