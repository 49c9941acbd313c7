/- Own laws of frames, operations and loops, and contracts of functions of the program. Conditions: those that each theorem states. -/
import Derived.Test.YtdgbmbjkbmpcbaaGreatDoorV39
set_option linter.all false
set_option maxRecDepth 20000
namespace Go.Proofs.LL
open Go Go.Proofs Go.RowKit
set_option maxHeartbeats 4000000
attribute [local irreducible] RunOp WL WC WDL WT WX
theorem mB{A:Prop}(h:A:=by
 rintro _ w3 ⟨hm1,e3⟩
 have ns3:=e3.size
 refine⟨ch,?_⟩
 refine WX.q rfl rfl (fun _ hS=>r_move rfl) ?_
 refine WX.alt ?_ ?_
 ·refine WX.rd rfl rfl (r_as (b:=m) (r_lookI Fo.h Fo.h aV rfl rfl (Ext.refl _) hm1) (by first|exact hm|exact hm')) ⟨((((Evo.drew _).then e1).then e2).then e3),?_⟩
  refine cx rfl rfl (aC (k:=1) (by omega) (by omega)) ?_
  rintro v4 w4 ⟨hOb,e4⟩
  obtain⟨q0,c0,hq0,_,_⟩:=hOb.form
  subst hq0
  have hZ1:=hOb.toB (A:=fun b=>w3.heap.size≤b∧b<w4.heap.size) (fun b hb hs=>⟨hb,hs⟩)
  have ns4:=e4.size
  refine⟨ch,?_⟩
  refine WX.q rfl rfl (fun _ hS=>r_bld (cs:=[_,_]) Fo.h rfl rfl) ?_
  refine WX.l rfl rfl (l_litO (vs:=[_]) Fo.h rfl rfl rfl rfl rfl) ?_
  rintro v5 w5 ⟨rfl,hOl,e5⟩
  have hbl5:=hOl.lt _ rfl
  have ns5:=e5.size
  refine⟨ch,?_⟩
  refine WX.l rfl rfl (l_app Fo.h rfl rfl hOl (Src.at Fb.h ((((hbO.mono (Ext.drew _)).mono ((e1.then e2).then e3)).mono e4).mono e5) rfl rfl) (by omega) (by simp only[maxLen];omega) (by omega)) ?_
  rintro v6 w6 ⟨hO,e6⟩
  have ns6:=e6.size
  refine⟨ch,?_⟩
  refine WX.q rfl rfl (fun _ hS=>r_assign rfl) ?_
  refine WX.nil ?_
  replace hT:=((((hT.mono (Ext.drew _)).mono ((e1.then e2).then e3)).mono e4).mono e5).mono e6
  replace hI:=((((hI.mono (Ext.drew _)).mono ((e1.then e2).then e3)).mono e4).mono e5).mono e6
  replace hZ1:=(hZ1.mono e5).mono e6
  exact(h2 _ _ ⟨_,_,(by omega),hO,am.append (am.one (p:=(m,bigB n 1)) (hZ1.weaken fun b hb h=>⟨by omega,hb⟩)) (am.one (p:=(u,bigB n s)) (hI.weaken fun b hb h=>⟨h.1,hb⟩)),rfl,hT.evo⟩).sub sb
 ·refine cx rfl rfl (aC (k:=1) (by omega) (by omega)) ?_
  rintro v4 w4 ⟨hOb,e4⟩
  obtain⟨q0,c0,hq0,_,_⟩:=hOb.form
  subst hq0
  have hZ1:=hOb.toB (A:=fun b=>w3.heap.size≤b∧b<w4.heap.size) (fun b hb hs=>⟨hb,hs⟩)
  have ns4:=e4.size
  refine⟨ch,?_⟩
  replace hm1:=hm1.mono e4
  refine WX.rd rfl rfl (r_as (b:=m) (r_lookI Fo.h Fo.h aV rfl rfl (Ext.refl _) hm1) (by first|exact hm|exact hm')) ⟨(((((Evo.drew _).then e1).then e2).then e3).then e4),?_⟩
  refine WX.q rfl rfl (fun _ hS=>r_bld (cs:=[_,_]) Fo.h rfl rfl) ?_
  refine WX.l rfl rfl (l_litO (vs:=[_]) Fo.h rfl rfl rfl rfl rfl) ?_
  rintro v5 w5 ⟨rfl,hOl,e5⟩
  have hbl5:=hOl.lt _ rfl
  have ns5:=e5.size
  refine⟨ch,?_⟩
  refine WX.l rfl rfl (l_app Fo.h rfl rfl hOl (Src.at Fb.h ((((hbO.mono (Ext.drew _)).mono ((e1.then e2).then e3)).mono e4).mono e5) rfl rfl) (by omega) (by simp only[maxLen];omega) (by omega)) ?_
  rintro v6 w6 ⟨hO,e6⟩
  have ns6:=e6.size
  refine⟨ch,?_⟩
  refine WX.q rfl rfl (fun _ hS=>r_assign rfl) ?_
  refine WX.nil ?_
  replace hT:=((((hT.mono (Ext.drew _)).mono ((e1.then e2).then e3)).mono e4).mono e5).mono e6
  replace hI:=((((hI.mono (Ext.drew _)).mono ((e1.then e2).then e3)).mono e4).mono e5).mono e6
  replace hZ1:=(hZ1.mono e5).mono e6
  exact(h2 _ _ ⟨_,_,(by omega),hO,am.append (am.one (p:=(m,bigB n 1)) (hZ1.weaken fun b hb h=>⟨by omega,hb⟩)) (am.one (p:=(u,bigB n s)) (hI.weaken fun b hb h=>⟨h.1,hb⟩)),rfl,hT.evo⟩).sub sb):A:=h
theorem dR{A:Prop}(h:A:=by
 exact(h2 _ _ ⟨_,_,(by omega),hO,am.append (am.one (p:=(m,bigB n 1)) (hZ1.weaken fun b hb h=>⟨by omega,hb⟩)) (am.one (p:=(u,bigB n s)) (hI.weaken fun b hb h=>⟨h.1,hb⟩)),rfl,hT.evo⟩).sub sb):A:=h
theorem k9{A:Prop}(h:A:=by
 intro i wj hh;obtain⟨B,cs,nB,hO,hV,oc,hE⟩:=hh
 have nB':w.heap.size≤B:=by omega
 refine jA 3 rfl ?_
 refine WL.q rfl (r_cmp (r_eql rfl rfl) (beqF (by(omega)))) ?_
 refine jD 3 rfl<|jA 5 rfl<|WC.ret ?_
 replace he:=he.then hE
 exact fin1 rfl ⟨⟨_,⟨fun p hp=>by rcases List.mem_cons.1 hp with e|hp;exact e▸hI1;exact List.mem_singleton.1 hp▸hPI,by simp,by simp,hfull _ (by simp)⟩,aX.own hO rfl (hV.weaken fun b h=>h.1) (fun b hb=>Nat.le_trans nB' hb)⟩,he⟩):A:=h
theorem jv{A:Prop}(h:A:=by
 replace hI:=hI.mono e2
 replace he:=he.then e2
 exact fin1 rfl ⟨⟨_,⟨fun p hp=>by rw[List.mem_singleton.1 hp];exact hPI,by simp,by simp,hfull _ (by simp)⟩,aX.at1 (ct hb2) hI (by show w.heap.size≤_;omega)⟩,he⟩):A:=h
theorem IsB.nil{A:Nat→Prop}{w:World}:IsB A w (.slice none 0 0) []:=⟨none,0,rfl,Nat.le_refl _,fun h=>absurd rfl h⟩
def aX(A:Nat→Prop)(w:World)(ps:List cj)(v:Value):Prop:=
 ∃p c cells,v= .slice p ps.length c∧ps.length≤c∧am A w ps cells∧(ps=[]∨∃b o,p=some ⟨b,o,none⟩∧A b∧At w b o cells)
theorem aX.mono{A B:Nat→Prop}{w w':World}{ps:List cj}{v:Value}(h:aX A w ps v)(e:Evo B w w')(hAB:∀b,b<w.heap.size→A b→B b:=by(intro b hb1 hb2;first|exact trivial|exact hb2|((try dsimp only[Nb]at hb2⊢);omega))):aX A w' ps v:=by
 obtain⟨p,c,cells,h1,h2,h3,h4⟩:=h
 exact⟨p,c,cells,h1,h2,h3.mono' e hAB,h4.imp id fun⟨b,o,e1,e2,e3⟩=>⟨b,o,e1,e2,e3.growP e hAB e2⟩⟩
theorem aX.low{A B:Nat→Prop}{w:World}{ps:List cj}{v:Value}(h:aX A w ps v)(hAB:∀b,A b→B b):aX B w ps v:=by
 obtain⟨p,c,cells,h1,h2,h3,h4⟩:=h
 exact⟨p,c,cells,h1,h2,h3.weaken hAB,h4.imp id fun⟨b,o,e1,e2,e3⟩=>⟨b,o,e1,hAB b e2,e3⟩⟩
theorem nP.toX{N0:Nat}{w:World}{ps:List cj}{v:Value}(h:nP N0 w ps v):aX (fun b=>N0≤b) w ps v:=by
 obtain⟨cs,hO,hV⟩:=h
 obtain⟨p,c,rfl,hc,hf⟩:=hO.form
 refine⟨p,c,cs,rfl,hc,hV.weaken fun b h=>h.1,?_⟩
 rcases Nat.eq_zero_or_pos ps.length with h0|h0
 ·exact .inl (List.eq_nil_of_length_eq_zero h0)
 ·obtain⟨b,rfl,h1,_,h2⟩:=hf h0
  exact .inr ⟨b,0,rfl,h1,h2⟩
theorem aX.own{A:Nat→Prop}{B n:Nat}{w:World}{ps:List cj}{v:Value}{cs:List Value}(hO:Own B 152 2 w v n cs)(hn:ps.length=n)(hV:am A w ps cs)(hA:∀b,B≤b→A b):aX A w ps v:=by
 subst hn
 obtain⟨p,c,rfl,hc,hf⟩:=hO.form
 refine⟨p,c,cs,rfl,hc,hV,?_⟩
 rcases Nat.eq_zero_or_pos ps.length with h0|h0
 ·exact .inl (List.eq_nil_of_length_eq_zero h0)
 ·obtain⟨b,rfl,h1,_,h2⟩:=hf h0
  exact .inr ⟨b,0,rfl,hA b h1,h2⟩
theorem aX.at1{A:Nat→Prop}{w:World}{b:Nat}{c:Int}{dv:Value}{l:List UInt8}(h:At w b 0 [.int .i64 c,dv])(hI:IsB A w dv l)(hA:A b):aX A w [(c,l)] (.slice (some ⟨b,0,none⟩) 1 1):=
 ⟨_,_,_,rfl,Nat.le_refl _,am.one (p:=(c,l)) hI,.inr ⟨b,0,rfl,hA,h⟩⟩
def eP(x:V)(p:cj):Prop:=∃u:UInt8,p.1=(u.toNat:Int)∧Pc x u p.2
structure kJ (x:V) (ps:List cj):Prop where
 all:∀p∈ps,eP x p
 len:ps.length≤4
 ne:ps≠[]
 full:arrK x.kind→∃p∈ps,p.1=bU x.kind
theorem di{k s:Int}{w:World}(h:bU k=s):Does TP 86 [.int .i64 k] w fun r w'=>r= .int .i64 s∧Ext w w':=h▸gN
def cD(N0:Nat)(x:V)(r:Value)(w':World):Prop:=∃ps,kJ x ps∧aX (fun b=>N0≤b) w' ps r
theorem f9{N0 b n s:Nat}{k:Int}{u:UInt8}{cs:List Value}{v2 v4:Value}{ρ:Fr}{w:World}{y:Code}{X:Exit→Fr→World→Prop}(hρ:Sub [(1,.pointer (some ⟨b,0,none⟩)),(2,v2),(3,.int .u64 (n:Int)),(4,v4)] ρ)(hb1:Blk w b (.int .i64 k::cs))(hc:bU k=(u.toNat:Int))(hs:j9 k=(s:Int))(hs8:s≤8)(hn:n<18446744073709551616)(hN:N0≤w.heap.size)
  (h2:∀i w',(∃dv,Blk w' i [.int .i64 (u.toNat:Int),dv]∧dv.oneCell'=true∧IsB (fun b=>N0≤b) w' dv (bigB n s)∧Ext w w')→WC TP Tryz.f89.ntmps [] y [(5,.pointer (some ⟨i,0,none⟩)),(1,.pointer (some ⟨b,0,none⟩)),(2,v2),(3,.int .u64 (n:Int)),(4,v4)] w' X):WC TP Tryz.f89.ntmps [] (cg Tryz.f89 2) ρ w (andThen TP Tryz.f89.ntmps [] y X):=by
 refine WC.sub hρ ?_
 have hT:cq (fun _=>True) w w:=⟨Ext.refl _⟩
 refine WC.regionT (.q 0 (.q 1 (.q 3 (.q 4 (.q 5 (.alt (.l 2 (.alt (.l 6 (.alt (.l 7 (.q 8 (.l 9 (.l 10 (.nil))))) (.l 9 (.l 7 (.q 8 (.l 10 (.nil))))))) (.l 9 (.l 6 (.l 7 (.q 8 (.l 10 (.nil)))))))) (.l 9 (.l 2 (.l 6 (.l 7 (.q 8 (.l 10 (.nil))))))))))))) (Ext _) mixed (by kernel_rfl) (Ext.drew _) ?_
 have nd1w:w.drew.heap.size=w.heap.size:=rfl
 refine WX.q rfl rfl (fun _ hS=>r_fieldAddr rfl Fo.h) ?_
 refine WX.q rfl rfl (fun _ hS=>r_load Fb.h rfl hS (hb1.get rfl)) ?_
 refine WX.q rfl rfl (fun _ hS=>r_move rfl) ?_
 refine WX.q rfl rfl (fun _ hS=>r_fieldAddr rfl Fo.h) ?_
 refine WX.q rfl rfl (fun _ hS=>r_load Fb.h rfl hS (hb1.get rfl)) ?_
 refine WX.alt ?_ ?_
 ·refine cx rfl rfl (di hc) ?_
  rintro v1 w1 ⟨rfl,e1⟩
  have ns1:=e1.size
  refine⟨ch,?_⟩
  refine WX.alt ?_ ?_
  ·refine cx rfl rfl (aj hs) ?_
   rintro v2 w2 ⟨rfl,e2⟩
   have ns2:=e2.size
   refine⟨ch,?_⟩
   refine WX.alt ?_ ?_
   ·refine cx rfl rfl (aC (by omega) hs8) ?_
    rintro v3 w3 ⟨hOb,e3⟩
    obtain⟨q0,c0,hq0,_,_⟩:=hOb.form
    subst hq0
    have ns3:=e3.size
    refine⟨ch,?_⟩
    refine WX.q rfl rfl (fun _ hS=>r_bld (cs:=[_,_]) Fo.h rfl rfl) ?_
    replace hb1:=(((hb1.mono (Ext.drew _)).mono e1).mono e2).mono e3
    have hx4b1:=hb1.lt
    refine ax rfl ?_
    rintro _ w4 ⟨rfl,hb4,e4⟩
    have nx4:=hb4.lt
    have ns4:=e4.size
    refine⟨ch,?_⟩
    refine WX.l0 rfl (lsw rfl rfl hb4) ?_
    rintro _ w5 ⟨hb4,e5,hz5⟩
    have ns5:=e5.size
    refine⟨ch,?_⟩
    refine WX.nil ?_
    replace hT:=((((hT.mono (Ext.drew _)).mono e1).mono e2).mono e3).mono (e4.then e5)
    replace hOb:=hOb.mono (e4.then e5)
    exact(h2 _ _ ⟨_,hb4,rfl,(hOb.toB (fun b hb _=>by show N0≤b;omega)),hT.evo⟩).sub sb
   ·replace hb1:=((hb1.mono (Ext.drew _)).mono e1).mono e2
    have hx3b1:=hb1.lt
    refine ax rfl ?_
    rintro _ w3 ⟨rfl,hb3,e3⟩
    have nx3:=hb3.lt
    have ns3:=e3.size
    refine⟨ch,?_⟩
    refine cx rfl rfl (aC (by omega) hs8) ?_
    rintro v4 w4 ⟨hOb,e4⟩
    obtain⟨q0,c0,hq0,_,_⟩:=hOb.form
    subst hq0
    have ns4:=e4.size
    refine⟨ch,?_⟩
    refine WX.q rfl rfl (fun _ hS=>r_bld (cs:=[_,_]) Fo.h rfl rfl) ?_
    replace hb3:=hb3.mono e4
    refine WX.l0 rfl (lsw rfl rfl hb3) ?_
    rintro _ w5 ⟨hb3,e5,hz5⟩
    have ns5:=e5.size
    refine⟨ch,?_⟩
    refine WX.nil ?_
    replace hT:=(((((hT.mono (Ext.drew _)).mono e1).mono e2).mono e3).mono e4).mono e5
    replace hOb:=hOb.mono e5
    exact(h2 _ _ ⟨_,hb3,rfl,(hOb.toB (fun b hb _=>by show N0≤b;omega)),hT.evo⟩).sub sb
  ·replace hb1:=(hb1.mono (Ext.drew _)).mono e1
   have hx2b1:=hb1.lt
   refine ax rfl ?_
   rintro _ w2 ⟨rfl,hb2,e2⟩
   have nx2:=hb2.lt
   have ns2:=e2.size
   refine⟨ch,?_⟩
   refine cx rfl rfl (aj hs) ?_
   rintro v3 w3 ⟨rfl,e3⟩
   have ns3:=e3.size
   refine⟨ch,?_⟩
   refine cx rfl rfl (aC (by omega) hs8) ?_
   rintro v4 w4 ⟨hOb,e4⟩
   obtain⟨q0,c0,hq0,_,_⟩:=hOb.form
   subst hq0
   have ns4:=e4.size
   refine⟨ch,?_⟩
   refine WX.q rfl rfl (fun _ hS=>r_bld (cs:=[_,_]) Fo.h rfl rfl) ?_
   replace hb2:=(hb2.mono e3).mono e4
   refine WX.l0 rfl (lsw rfl rfl hb2) ?_
   rintro _ w5 ⟨hb2,e5,hz5⟩
   have ns5:=e5.size
   refine⟨ch,?_⟩
   refine WX.nil ?_
   replace hT:=(((((hT.mono (Ext.drew _)).mono e1).mono e2).mono e3).mono e4).mono e5
   replace hOb:=hOb.mono e5
   exact(h2 _ _ ⟨_,hb2,rfl,(hOb.toB (fun b hb _=>by show N0≤b;omega)),hT.evo⟩).sub sb
 ·replace hb1:=hb1.mono (Ext.drew _)
  have hx1b1:=hb1.lt
  refine ax rfl ?_
  rintro _ w1 ⟨rfl,hb1,e1⟩
  have nx1:=hb1.lt
  have ns1:=e1.size
  refine⟨ch,?_⟩
  refine cx rfl rfl (di hc) ?_
  rintro v2 w2 ⟨rfl,e2⟩
  have ns2:=e2.size
  refine⟨ch,?_⟩
  refine cx rfl rfl (aj hs) ?_
  rintro v3 w3 ⟨rfl,e3⟩
  have ns3:=e3.size
  refine⟨ch,?_⟩
  refine cx rfl rfl (aC (by omega) hs8) ?_
  rintro v4 w4 ⟨hOb,e4⟩
  obtain⟨q0,c0,hq0,_,_⟩:=hOb.form
  subst hq0
  have ns4:=e4.size
  refine⟨ch,?_⟩
  refine WX.q rfl rfl (fun _ hS=>r_bld (cs:=[_,_]) Fo.h rfl rfl) ?_
  replace hb1:=((hb1.mono e2).mono e3).mono e4
  refine WX.l0 rfl (lsw rfl rfl hb1) ?_
  rintro _ w5 ⟨hb1,e5,hz5⟩
  have ns5:=e5.size
  refine⟨ch,?_⟩
  refine WX.nil ?_
  replace hT:=(((((hT.mono (Ext.drew _)).mono e1).mono e2).mono e3).mono e4).mono e5
  replace hOb:=hOb.mono e5
  exact(h2 _ _ ⟨_,hb1,rfl,(hOb.toB (fun b hb _=>by show N0≤b;omega)),hT.evo⟩).sub sb
set_option maxHeartbeats 1000000 in
theorem jY{N0 b g n s:Nat}{k m u:Int}{cs:List Value}{dv v2:Value}{ρ:Fr}{w:World}{y:Code}{X:Exit→Fr→World→Prop}(hm:(tabI [(4,82),(5,83)] k).getD 0=m)(hm':(tabI [(5,83),(4,82)] k).getD 0=m)(hρ:Sub [(1,.pointer (some ⟨b,0,none⟩)),(2,v2),(3,.int .u64 (n:Int)),(6,.slice (some ⟨g,0,none⟩) 1 1)] ρ)(hb1:Blk w b (.int .i64 k::cs))(hbO:At w g 0 [.int .i64 u,dv])(hI:IsB (fun b=>N0≤b∧b<w.heap.size) w dv (bigB n s))(hg:g<w.heap.size)(hn:n<18446744073709551616)(hN:N0≤w.heap.size)
  (h2:∀i w',(∃B cs,w.heap.size≤B∧Own B 152 2 w' i 2 cs∧am (fun b=>N0≤b∧b<w'.heap.size) w' [(m,bigB n 1),(u,bigB n s)] cs∧cs.all (fun v=>v.oneCell')=true∧Ext w w')→WC TP Tryz.f89.ntmps [] y [(6,i),(1,.pointer (some ⟨b,0,none⟩)),(2,v2),(3,.int .u64 (n:Int))] w' X):WC TP Tryz.f89.ntmps [] (cg Tryz.f89 8) ρ w (andThen TP Tryz.f89.ntmps [] y X):=by
 have hI0:=hI
 obtain⟨p0,c0,hdv,_,_⟩:=hI0
 subst hdv
 refine WC.sub hρ ?_
 have hT:cq (fun _=>True) w w:=⟨Ext.refl _⟩
 refine WC.regionT (.q 4 (.q 5 (.q 7 (.q 11 (.alt (.l 0 (.alt (.l 1 (.alt (.l 2 (.q 3 (.alt (.l 6 (.l 8 (.q 9 (.l 10 (.l 12 (.q 13 (.nil))))))) (.l 8 (.l 6 (.q 9 (.l 10 (.l 12 (.q 13 (.nil)))))))))) (.l 8 (.l 2 (.q 3 (.l 6 (.q 9 (.l 10 (.l 12 (.q 13 (.nil))))))))))) (.alt (.l 2 (.alt (.l 1 (.q 3 (.alt (.l 6 (.l 8 (.q 9 (.l 10 (.l 12 (.q 13 (.nil))))))) (.l 8 (.l 6 (.q 9 (.l 10 (.l 12 (.q 13 (.nil)))))))))) (.l 8 (.l 1 (.q 3 (.l 6 (.q 9 (.l 10 (.l 12 (.q 13 (.nil))))))))))) (.l 8 (.alt (.l 1 (.l 2 (.q 3 (.l 6 (.q 9 (.l 10 (.l 12 (.q 13 (.nil))))))))) (.l 2 (.l 1 (.q 3 (.l 6 (.q 9 (.l 10 (.l 12 (.q 13 (.nil)))))))))))))) (.l 8 (.l 0 (.alt (.l 1 (.l 2 (.q 3 (.l 6 (.q 9 (.l 10 (.l 12 (.q 13 (.nil))))))))) (.l 2 (.l 1 (.q 3 (.l 6 (.q 9 (.l 10 (.l 12 (.q 13 (.nil))))))))))))))))) (Ext _) mixed (by kernel_rfl) (Ext.drew _) ?_
 have nd1w:w.drew.heap.size=w.heap.size:=rfl
 refine WX.q rfl rfl (fun _ hS=>r_fieldAddr rfl Fo.h) ?_
 refine WX.q rfl rfl (fun _ hS=>r_load Fb.h rfl hS (hb1.get rfl)) ?_
 refine WX.q rfl rfl (fun _ hS=>r_move rfl) ?_
 refine WX.q rfl rfl (fun _ hS=>r_move rfl) ?_
 refine WX.alt ?_ ?_
 ·replace hb1:=hb1.mono (Ext.drew _)
  have hx1b1:=hb1.lt
  refine WX.l rfl rfl (l_mkMap Fo.h (fun o h=>by cases h)) ?_
  rintro _ w1 ⟨rfl,hm1,e1⟩
  have nx1:=hm1.lt
  have ns1:=e1.size
  refine⟨ch,?_⟩
  refine WX.alt ?_ ?_
  ·refine WX.l0 rfl (l_ins (l:=[]) Fo.h Fo.h rfl rfl rfl hm1 rfl) ?_
   rintro _ w2 ⟨hm1,e2⟩
   have ns2:=e2.size
   refine⟨ch,?_⟩
   refine WX.alt ?_ ?_
   ·refine WX.l0 rfl (l_ins (l:=[(4,82)]) Fo.h Fo.h rfl rfl rfl hm1 rfl) ?_
    exact mB
   ·refine cx rfl rfl (aC (k:=1) (by omega) (by omega)) ?_
    rintro v3 w3 ⟨hOb,e3⟩
    obtain⟨q0,c0,hq0,_,_⟩:=hOb.form
    subst hq0
    have hZ1:=hOb.toB (A:=fun b=>w2.heap.size≤b∧b<w3.heap.size) (fun b hb hs=>⟨hb,hs⟩)
    have ns3:=e3.size
    refine⟨ch,?_⟩
    replace hm1:=hm1.mono e3
    refine WX.l0 rfl (l_ins (l:=[(4,82)]) Fo.h Fo.h rfl rfl rfl hm1 rfl) ?_
    rintro _ w4 ⟨hm1,e4⟩
    have ns4:=e4.size
    refine⟨ch,?_⟩
    refine WX.q rfl rfl (fun _ hS=>r_move rfl) ?_
    refine WX.rd rfl rfl (r_as (b:=m) (r_lookI Fo.h Fo.h aV rfl rfl (Ext.refl _) hm1) (by first|exact hm|exact hm')) ⟨(((((Evo.drew _).then e1).then e2).then e3).then e4),?_⟩
    refine WX.q rfl rfl (fun _ hS=>r_bld (cs:=[_,_]) Fo.h rfl rfl) ?_
    refine WX.l rfl rfl (l_litO (vs:=[_]) Fo.h rfl rfl rfl rfl rfl) ?_
    rintro v5 w5 ⟨rfl,hOl,e5⟩
    have hbl5:=hOl.lt _ rfl
    have ns5:=e5.size
    refine⟨ch,?_⟩
    refine WX.l rfl rfl (l_app Fo.h rfl rfl hOl (Src.at Fb.h (((((hbO.mono (Ext.drew _)).mono (e1.then e2)).mono e3).mono e4).mono e5) rfl rfl) (by omega) (by simp only[maxLen];omega) (by omega)) ?_
    rintro v6 w6 ⟨hO,e6⟩
    have ns6:=e6.size
    refine⟨ch,?_⟩
    refine WX.q rfl rfl (fun _ hS=>r_assign rfl) ?_
    refine WX.nil ?_
    replace hT:=(((((hT.mono (Ext.drew _)).mono (e1.then e2)).mono e3).mono e4).mono e5).mono e6
    replace hI:=(((((hI.mono (Ext.drew _)).mono (e1.then e2)).mono e3).mono e4).mono e5).mono e6
    replace hZ1:=((hZ1.mono e4).mono e5).mono e6
    exact dR
  ·refine WX.alt ?_ ?_
   ·refine WX.l0 rfl (l_ins (l:=[]) Fo.h Fo.h rfl rfl rfl hm1 rfl) ?_
    rintro _ w2 ⟨hm1,e2⟩
    have ns2:=e2.size
    refine⟨ch,?_⟩
    refine WX.alt ?_ ?_
    ·refine WX.l0 rfl (l_ins (l:=[(5,83)]) Fo.h Fo.h rfl rfl rfl hm1 rfl) ?_
     exact mB
    ·refine cx rfl rfl (aC (k:=1) (by omega) (by omega)) ?_
     rintro v3 w3 ⟨hOb,e3⟩
     obtain⟨q0,c0,hq0,_,_⟩:=hOb.form
     subst hq0
     have hZ1:=hOb.toB (A:=fun b=>w2.heap.size≤b∧b<w3.heap.size) (fun b hb hs=>⟨hb,hs⟩)
     have ns3:=e3.size
     refine⟨ch,?_⟩
     replace hm1:=hm1.mono e3
     refine WX.l0 rfl (l_ins (l:=[(5,83)]) Fo.h Fo.h rfl rfl rfl hm1 rfl) ?_
     rintro _ w4 ⟨hm1,e4⟩
     have ns4:=e4.size
     refine⟨ch,?_⟩
     refine WX.q rfl rfl (fun _ hS=>r_move rfl) ?_
     refine WX.rd rfl rfl (r_as (b:=m) (r_lookI Fo.h Fo.h aV rfl rfl (Ext.refl _) hm1) (by first|exact hm|exact hm')) ⟨(((((Evo.drew _).then e1).then e2).then e3).then e4),?_⟩
     refine WX.q rfl rfl (fun _ hS=>r_bld (cs:=[_,_]) Fo.h rfl rfl) ?_
     refine WX.l rfl rfl (l_litO (vs:=[_]) Fo.h rfl rfl rfl rfl rfl) ?_
     rintro v5 w5 ⟨rfl,hOl,e5⟩
     have hbl5:=hOl.lt _ rfl
     have ns5:=e5.size
     refine⟨ch,?_⟩
     refine WX.l rfl rfl (l_app Fo.h rfl rfl hOl (Src.at Fb.h (((((hbO.mono (Ext.drew _)).mono (e1.then e2)).mono e3).mono e4).mono e5) rfl rfl) (by omega) (by simp only[maxLen];omega) (by omega)) ?_
     rintro v6 w6 ⟨hO,e6⟩
     have ns6:=e6.size
     refine⟨ch,?_⟩
     refine WX.q rfl rfl (fun _ hS=>r_assign rfl) ?_
     refine WX.nil ?_
     replace hT:=(((((hT.mono (Ext.drew _)).mono (e1.then e2)).mono e3).mono e4).mono e5).mono e6
     replace hI:=(((((hI.mono (Ext.drew _)).mono (e1.then e2)).mono e3).mono e4).mono e5).mono e6
     replace hZ1:=((hZ1.mono e4).mono e5).mono e6
     exact dR
   ·refine cx rfl rfl (aC (k:=1) (by omega) (by omega)) ?_
    rintro v2 w2 ⟨hOb,e2⟩
    obtain⟨q0,c0,hq0,_,_⟩:=hOb.form
    subst hq0
    have hZ1:=hOb.toB (A:=fun b=>w1.heap.size≤b∧b<w2.heap.size) (fun b hb hs=>⟨hb,hs⟩)
    have ns2:=e2.size
    refine⟨ch,?_⟩
    refine WX.alt ?_ ?_
    ·replace hm1:=hm1.mono e2
     refine WX.l0 rfl (l_ins (l:=[]) Fo.h Fo.h rfl rfl rfl hm1 rfl) ?_
     rintro _ w3 ⟨hm1,e3⟩
     have ns3:=e3.size
     refine⟨ch,?_⟩
     refine WX.l0 rfl (l_ins (l:=[(4,82)]) Fo.h Fo.h rfl rfl rfl hm1 rfl) ?_
     rintro _ w4 ⟨hm1,e4⟩
     have ns4:=e4.size
     refine⟨ch,?_⟩
     refine WX.q rfl rfl (fun _ hS=>r_move rfl) ?_
     refine WX.rd rfl rfl (r_as (b:=m) (r_lookI Fo.h Fo.h aV rfl rfl (Ext.refl _) hm1) (by first|exact hm|exact hm')) ⟨(((((Evo.drew _).then e1).then e2).then e3).then e4),?_⟩
     refine WX.q rfl rfl (fun _ hS=>r_bld (cs:=[_,_]) Fo.h rfl rfl) ?_
     refine WX.l rfl rfl (l_litO (vs:=[_]) Fo.h rfl rfl rfl rfl rfl) ?_
     rintro v5 w5 ⟨rfl,hOl,e5⟩
     have hbl5:=hOl.lt _ rfl
     have ns5:=e5.size
     refine⟨ch,?_⟩
     refine WX.l rfl rfl (l_app Fo.h rfl rfl hOl (Src.at Fb.h ((((((hbO.mono (Ext.drew _)).mono e1).mono e2).mono e3).mono e4).mono e5) rfl rfl) (by omega) (by simp only[maxLen];omega) (by omega)) ?_
     rintro v6 w6 ⟨hO,e6⟩
     have ns6:=e6.size
     refine⟨ch,?_⟩
     refine WX.q rfl rfl (fun _ hS=>r_assign rfl) ?_
     refine WX.nil ?_
     replace hT:=((((((hT.mono (Ext.drew _)).mono e1).mono e2).mono e3).mono e4).mono e5).mono e6
     replace hI:=((((((hI.mono (Ext.drew _)).mono e1).mono e2).mono e3).mono e4).mono e5).mono e6
     replace hZ1:=(((hZ1.mono e3).mono e4).mono e5).mono e6
     exact dR
    ·replace hm1:=hm1.mono e2
     refine WX.l0 rfl (l_ins (l:=[]) Fo.h Fo.h rfl rfl rfl hm1 rfl) ?_
     rintro _ w3 ⟨hm1,e3⟩
     have ns3:=e3.size
     refine⟨ch,?_⟩
     refine WX.l0 rfl (l_ins (l:=[(5,83)]) Fo.h Fo.h rfl rfl rfl hm1 rfl) ?_
     rintro _ w4 ⟨hm1,e4⟩
     have ns4:=e4.size
     refine⟨ch,?_⟩
     refine WX.q rfl rfl (fun _ hS=>r_move rfl) ?_
     refine WX.rd rfl rfl (r_as (b:=m) (r_lookI Fo.h Fo.h aV rfl rfl (Ext.refl _) hm1) (by first|exact hm|exact hm')) ⟨(((((Evo.drew _).then e1).then e2).then e3).then e4),?_⟩
     refine WX.q rfl rfl (fun _ hS=>r_bld (cs:=[_,_]) Fo.h rfl rfl) ?_
     refine WX.l rfl rfl (l_litO (vs:=[_]) Fo.h rfl rfl rfl rfl rfl) ?_
     rintro v5 w5 ⟨rfl,hOl,e5⟩
     have hbl5:=hOl.lt _ rfl
     have ns5:=e5.size
     refine⟨ch,?_⟩
     refine WX.l rfl rfl (l_app Fo.h rfl rfl hOl (Src.at Fb.h ((((((hbO.mono (Ext.drew _)).mono e1).mono e2).mono e3).mono e4).mono e5) rfl rfl) (by omega) (by simp only[maxLen];omega) (by omega)) ?_
     rintro v6 w6 ⟨hO,e6⟩
     have ns6:=e6.size
     refine⟨ch,?_⟩
     refine WX.q rfl rfl (fun _ hS=>r_assign rfl) ?_
     refine WX.nil ?_
     replace hT:=((((((hT.mono (Ext.drew _)).mono e1).mono e2).mono e3).mono e4).mono e5).mono e6
     replace hI:=((((((hI.mono (Ext.drew _)).mono e1).mono e2).mono e3).mono e4).mono e5).mono e6
     replace hZ1:=(((hZ1.mono e3).mono e4).mono e5).mono e6
     exact dR
 ·refine cx rfl rfl (aC (k:=1) (by omega) (by omega)) ?_
  rintro v1 w1 ⟨hOb,e1⟩
  obtain⟨q0,c0,hq0,_,_⟩:=hOb.form
  subst hq0
  have hZ1:=hOb.toB (A:=fun b=>w.heap.size≤b∧b<w1.heap.size) (fun b hb hs=>⟨hb,hs⟩)
  have ns1:=e1.size
  refine⟨ch,?_⟩
  replace hb1:=(hb1.mono (Ext.drew _)).mono e1
  have hx2b1:=hb1.lt
  refine WX.l rfl rfl (l_mkMap Fo.h (fun o h=>by cases h)) ?_
  rintro _ w2 ⟨rfl,hm2,e2⟩
  have nx2:=hm2.lt
  have ns2:=e2.size
  refine⟨ch,?_⟩
  refine WX.alt ?_ ?_
  ·refine WX.l0 rfl (l_ins (l:=[]) Fo.h Fo.h rfl rfl rfl hm2 rfl) ?_
   rintro _ w3 ⟨hm2,e3⟩
   have ns3:=e3.size
   refine⟨ch,?_⟩
   refine WX.l0 rfl (l_ins (l:=[(4,82)]) Fo.h Fo.h rfl rfl rfl hm2 rfl) ?_
   rintro _ w4 ⟨hm2,e4⟩
   have ns4:=e4.size
   refine⟨ch,?_⟩
   refine WX.q rfl rfl (fun _ hS=>r_move rfl) ?_
   refine WX.rd rfl rfl (r_as (b:=m) (r_lookI Fo.h Fo.h aV rfl rfl (Ext.refl _) hm2) (by first|exact hm|exact hm')) ⟨(((((Evo.drew _).then e1).then e2).then e3).then e4),?_⟩
   refine WX.q rfl rfl (fun _ hS=>r_bld (cs:=[_,_]) Fo.h rfl rfl) ?_
   refine WX.l rfl rfl (l_litO (vs:=[_]) Fo.h rfl rfl rfl rfl rfl) ?_
   rintro v5 w5 ⟨rfl,hOl,e5⟩
   have hbl5:=hOl.lt _ rfl
   have ns5:=e5.size
   refine⟨ch,?_⟩
   refine WX.l rfl rfl (l_app Fo.h rfl rfl hOl (Src.at Fb.h ((((hbO.mono (Ext.drew _)).mono e1).mono ((e2.then e3).then e4)).mono e5) rfl rfl) (by omega) (by simp only[maxLen];omega) (by omega)) ?_
   rintro v6 w6 ⟨hO,e6⟩
   have ns6:=e6.size
   refine⟨ch,?_⟩
   refine WX.q rfl rfl (fun _ hS=>r_assign rfl) ?_
   refine WX.nil ?_
   replace hT:=((((hT.mono (Ext.drew _)).mono e1).mono ((e2.then e3).then e4)).mono e5).mono e6
   replace hI:=((((hI.mono (Ext.drew _)).mono e1).mono ((e2.then e3).then e4)).mono e5).mono e6
   replace hZ1:=((hZ1.mono ((e2.then e3).then e4)).mono e5).mono e6
   exact dR
  ·refine WX.l0 rfl (l_ins (l:=[]) Fo.h Fo.h rfl rfl rfl hm2 rfl) ?_
   rintro _ w3 ⟨hm2,e3⟩
   have ns3:=e3.size
   refine⟨ch,?_⟩
   refine WX.l0 rfl (l_ins (l:=[(5,83)]) Fo.h Fo.h rfl rfl rfl hm2 rfl) ?_
   rintro _ w4 ⟨hm2,e4⟩
   have ns4:=e4.size
   refine⟨ch,?_⟩
   refine WX.q rfl rfl (fun _ hS=>r_move rfl) ?_
   refine WX.rd rfl rfl (r_as (b:=m) (r_lookI Fo.h Fo.h aV rfl rfl (Ext.refl _) hm2) (by first|exact hm|exact hm')) ⟨(((((Evo.drew _).then e1).then e2).then e3).then e4),?_⟩
   refine WX.q rfl rfl (fun _ hS=>r_bld (cs:=[_,_]) Fo.h rfl rfl) ?_
   refine WX.l rfl rfl (l_litO (vs:=[_]) Fo.h rfl rfl rfl rfl rfl) ?_
   rintro v5 w5 ⟨rfl,hOl,e5⟩
   have hbl5:=hOl.lt _ rfl
   have ns5:=e5.size
   refine⟨ch,?_⟩
   refine WX.l rfl rfl (l_app Fo.h rfl rfl hOl (Src.at Fb.h ((((hbO.mono (Ext.drew _)).mono e1).mono ((e2.then e3).then e4)).mono e5) rfl rfl) (by omega) (by simp only[maxLen];omega) (by omega)) ?_
   rintro v6 w6 ⟨hO,e6⟩
   have ns6:=e6.size
   refine⟨ch,?_⟩
   refine WX.q rfl rfl (fun _ hS=>r_assign rfl) ?_
   refine WX.nil ?_
   replace hT:=((((hT.mono (Ext.drew _)).mono e1).mono ((e2.then e3).then e4)).mono e5).mono e6
   replace hI:=((((hI.mono (Ext.drew _)).mono e1).mono ((e2.then e3).then e4)).mono e5).mono e6
   replace hZ1:=((hZ1.mono ((e2.then e3).then e4)).mono e5).mono e6
   exact dR
theorem bj{A:Nat→Prop}{k:Int}{n s:Nat}{u:UInt8}{t:List UInt8}{ks:List V}{o:Int}{d:List V}{cx:List Value}{w:World}(hx:ag A w (.mk k n t ks o d) cx)(hc:bU k=(u.toNat:Int))(hs:j9 k=(s:Int))(hs8:s≤8)(hP:Pc (.mk k n t ks o d) u (bigB n s))(hn:n<18446744073709551616)(hk:k≠4∧k≠5∧k≠8∧k≠9):
  Does TP 89 [.agg cx.toArray] w fun r w'=>cD w.heap.size (.mk k n t ks o d) r w'∧Ext w w':=by
 have hfull:∀ps:List cj,(bU k,bigB n s)∈ps→arrK (V.mk k n t ks o d).kind→∃p∈ps,p.1=bU (V.mk k n t ks o d).kind:=fun ps h _=>⟨_,h,rfl⟩
 have hPI:eP (.mk k n t ks o d) ((u.toNat:Int),bigB n s):=⟨u,rfl,hP⟩
 rw[hc]at hfull
 obtain⟨pk,ck,pd,cd,rfl,_,_,_,_⟩:=hx.openV
 refine do1 Tryz.func89 ?_
 have he:Evo (fun _=>True) w w:=Evo.refl w
 refine jA 2 rfl ?_
 have hs1:=he.size
 refine bx rfl ?_
 rintro _ w1 ⟨rfl,hb1,e1⟩
 have nx1:=hb1.lt
 have ns1:=e1.size
 refine jC 2 rfl ?_
 refine WC.seq<|WC.regionD (tt [0,1,2,3,4,5,6]) (Ext _) mixed (by kernel_rfl) (Ext.drew _) ?_
 have nd1w1:w1.drew.heap.size=w1.heap.size:=rfl
 refine jE 1 rfl<|dl rfl hb1 rfl<|jE 1 rfl<|dl rfl hb1 rfl ?_
 refine WD.q rfl (fun _ hS=>r_cvInt Fo.h rfl) ?_
 refine jE 2 rfl<|WD.nil ?_
 replace hb1:=hb1.mono (Ext.drew _)
 replace he:=(he.then e1).then (Ext.drew _)
 refine WC.seq<|f9 (N0:=w.heap.size) sb hb1 hc hs hs8 hn (by omega) ?_
 intro i wj hh;obtain⟨dv,hB,od,hI,hE⟩:=hh
 replace he:=he.then hE
 have nh:=he.size
 refine jA 2 rfl<|la rfl hB ?_
 have hs2:=he.size
 replace hb1:=hb1.mono hE
 have hx2b1:=hb1.lt
 refine WL.l rfl (ll [_]) ?_
 rintro _ w2 ⟨rfl,hb2,e2⟩
 have ns2:=e2.size
 refine jD 6 rfl ?_
 replace hb1:=hb1.mono e2
 refine ld rfl hb1 rfl<|jD 5 rfl<|WL.q rfl (r_cmp (r_eql rfl rfl) (beqF (hk.1)))<|jD 4 rfl<|WL.q rfl (r_cmp (r_eql rfl rfl) (beqF (hk.2.1)))<|jD 6 rfl<|WL.q rfl (r_cmp (r_eql rfl rfl) (beqF (hk.2.2.1)))<|jD 4 rfl<|WL.q rfl (r_cmp (r_eql rfl rfl) (beqF (hk.2.2.2))) ?_
 refine jD 4 rfl<|jA 5 rfl<|WC.ret ?_
 exact jv
theorem ku{A:Nat→Prop}{k:Int}{n s:Nat}{u:UInt8}{t:List UInt8}{ks:List V}{o:Int}{d:List V}{cx:List Value}{w:World}(hx:ag A w (.mk k n t ks o d) cx)(hc:bU k=(u.toNat:Int))(hs:j9 k=(s:Int))(hs8:s≤8)(hP:Pc (.mk k n t ks o d) u (bigB n s))(hn:n<18446744073709551616)(hk:k=4)(hq:256≤n):
  Does TP 89 [.agg cx.toArray] w fun r w'=>cD w.heap.size (.mk k n t ks o d) r w'∧Ext w w':=by
 have hfull:∀ps:List cj,(bU k,bigB n s)∈ps→arrK (V.mk k n t ks o d).kind→∃p∈ps,p.1=bU (V.mk k n t ks o d).kind:=fun ps h _=>⟨_,h,rfl⟩
 have hPI:eP (.mk k n t ks o d) ((u.toNat:Int),bigB n s):=⟨u,rfl,hP⟩
 rw[hc]at hfull
 subst hk
 obtain⟨pk,ck,pd,cd,rfl,_,_,_,_⟩:=hx.openV
 refine do1 Tryz.func89 ?_
 have he:Evo (fun _=>True) w w:=Evo.refl w
 refine jA 2 rfl ?_
 have hs1:=he.size
 refine bx rfl ?_
 rintro _ w1 ⟨rfl,hb1,e1⟩
 have nx1:=hb1.lt
 have ns1:=e1.size
 refine jC 2 rfl ?_
 refine WC.seq<|WC.regionD (tt [0,1,2,3,4,5,6]) (Ext _) mixed (by kernel_rfl) (Ext.drew _) ?_
 have nd1w1:w1.drew.heap.size=w1.heap.size:=rfl
 refine jE 1 rfl<|dl rfl hb1 rfl<|jE 1 rfl<|dl rfl hb1 rfl ?_
 refine WD.q rfl (fun _ hS=>r_cvInt Fo.h rfl) ?_
 refine jE 2 rfl<|WD.nil ?_
 replace hb1:=hb1.mono (Ext.drew _)
 replace he:=(he.then e1).then (Ext.drew _)
 refine WC.seq<|f9 (N0:=w.heap.size) sb hb1 hc hs hs8 hn (by omega) ?_
 intro i wj hh;obtain⟨dv,hB,od,hI,hE⟩:=hh
 replace he:=he.then hE
 have nh:=he.size
 refine jA 2 rfl<|la rfl hB ?_
 have hs2:=he.size
 replace hb1:=hb1.mono hE
 have hx2b1:=hb1.lt
 refine WL.l rfl (ll [_]) ?_
 rintro _ w2 ⟨rfl,hb2,e2⟩
 have ns2:=e2.size
 refine jD 6 rfl ?_
 replace hb1:=hb1.mono e2
 refine ld rfl hb1 rfl<|jD 15 rfl<|lF rfl rfl<|jD 3 rfl<|jA 3 rfl ?_
 refine WL.q rfl (r_cmp (r_eql rfl rfl) (beqF (by(omega)))) ?_
 refine jD 3 rfl<|jA 5 rfl<|WC.ret ?_
 exact jv
theorem iJ{A:Nat→Prop}{k:Int}{n s:Nat}{u:UInt8}{t:List UInt8}{ks:List V}{o:Int}{d:List V}{cx:List Value}{w:World}(hx:ag A w (.mk k n t ks o d) cx)(hc:bU k=(u.toNat:Int))(hs:j9 k=(s:Int))(hs8:s≤8)(hP:Pc (.mk k n t ks o d) u (bigB n s))(hn:n<18446744073709551616)(hk:k=4)(hq:n<256)(hz:0<n):
  Does TP 89 [.agg cx.toArray] w fun r w'=>cD w.heap.size (.mk k n t ks o d) r w'∧Ext w w':=by
 have hfull:∀ps:List cj,(bU k,bigB n s)∈ps→arrK (V.mk k n t ks o d).kind→∃p∈ps,p.1=bU (V.mk k n t ks o d).kind:=fun ps h _=>⟨_,h,rfl⟩
 have hPI:eP (.mk k n t ks o d) ((u.toNat:Int),bigB n s):=⟨u,rfl,hP⟩
 rw[hc]at hfull
 subst hk
 obtain⟨pk,ck,pd,cd,rfl,_,_,_,_⟩:=hx.openV
 refine do1 Tryz.func89 ?_
 have he:Evo (fun _=>True) w w:=Evo.refl w
 refine jA 2 rfl ?_
 have hs1:=he.size
 refine bx rfl ?_
 rintro _ w1 ⟨rfl,hb1,e1⟩
 have nx1:=hb1.lt
 have ns1:=e1.size
 refine jC 2 rfl ?_
 refine WC.seq<|WC.regionD (tt [0,1,2,3,4,5,6]) (Ext _) mixed (by kernel_rfl) (Ext.drew _) ?_
 have nd1w1:w1.drew.heap.size=w1.heap.size:=rfl
 refine jE 1 rfl<|dl rfl hb1 rfl<|jE 1 rfl<|dl rfl hb1 rfl ?_
 refine WD.q rfl (fun _ hS=>r_cvInt Fo.h rfl) ?_
 refine jE 2 rfl<|WD.nil ?_
 replace hb1:=hb1.mono (Ext.drew _)
 replace he:=(he.then e1).then (Ext.drew _)
 refine WC.seq<|f9 (N0:=w.heap.size) sb hb1 hc hs hs8 hn (by omega) ?_
 intro i wj hh;obtain⟨dv,hB,od,hI,hE⟩:=hh
 replace he:=he.then hE
 have nh:=he.size
 have nx0:=hB.lt
 have hI0:=hI
 obtain⟨p0,c0,hdv,_,_⟩:=hI0
 subst hdv
 refine jA 2 rfl<|la rfl hB ?_
 have hs2:=he.size
 replace hb1:=hb1.mono hE
 have hx2b1:=hb1.lt
 refine WL.l rfl (ll [_]) ?_
 rintro _ w2 ⟨rfl,hb2,e2⟩
 have ns2:=e2.size
 refine jD 6 rfl ?_
 replace hb1:=hb1.mono e2
 refine ld rfl hb1 rfl<|jD 15 rfl<|lT rfl rfl<|jD 2 rfl ?_
 replace hI:=hI.mono e2
 have hI:=hI.weaken (B:=fun b=>w.heap.size≤b∧b<w2.heap.size) (fun b hb h=>⟨h,hb⟩)
 have hbO:=ct hb2
 replace hB:=hB.mono e2
 replace he:=he.then e2
 refine jY (N0:=w.heap.size) (m:=82) rfl rfl sb hb1 hbO hI hb2.lt hn (by omega) ?_
 have hI1:eP (.mk 4 n t ks o d) (82,bigB n 1):=⟨82,rfl,.uint1 (by omega)⟩
 exact k9
set_option maxHeartbeats 1000000 in
theorem iW{A:Nat→Prop}{k:Int}{n s:Nat}{u:UInt8}{t:List UInt8}{ks:List V}{o:Int}{d:List V}{cx:List Value}{w:World}(hx:ag A w (.mk k n t ks o d) cx)(hc:bU k=(u.toNat:Int))(hs:j9 k=(s:Int))(hs8:s≤8)(hP:Pc (.mk k n t ks o d) u (bigB n s))(hn:n<18446744073709551616)(hk:k=4)(hz:n=0):
  Does TP 89 [.agg cx.toArray] w fun r w'=>cD w.heap.size (.mk k n t ks o d) r w'∧Ext w w':=by
 have hfull:∀ps:List cj,(bU k,bigB n s)∈ps→arrK (V.mk k n t ks o d).kind→∃p∈ps,p.1=bU (V.mk k n t ks o d).kind:=fun ps h _=>⟨_,h,rfl⟩
 have hPI:eP (.mk k n t ks o d) ((u.toNat:Int),bigB n s):=⟨u,rfl,hP⟩
 rw[hc]at hfull
 subst hk
 obtain⟨pk,ck,pd,cd,rfl,_,_,_,_⟩:=hx.openV
 refine do1 Tryz.func89 ?_
 have he:Evo (fun _=>True) w w:=Evo.refl w
 refine jA 2 rfl ?_
 have hs1:=he.size
 refine bx rfl ?_
 rintro _ w1 ⟨rfl,hb1,e1⟩
 have nx1:=hb1.lt
 have ns1:=e1.size
 refine jC 2 rfl ?_
 refine WC.seq<|WC.regionD (tt [0,1,2,3,4,5,6]) (Ext _) mixed (by kernel_rfl) (Ext.drew _) ?_
 have nd1w1:w1.drew.heap.size=w1.heap.size:=rfl
 refine jE 1 rfl<|dl rfl hb1 rfl<|jE 1 rfl<|dl rfl hb1 rfl ?_
 refine WD.q rfl (fun _ hS=>r_cvInt Fo.h rfl) ?_
 refine jE 2 rfl<|WD.nil ?_
 replace hb1:=hb1.mono (Ext.drew _)
 replace he:=(he.then e1).then (Ext.drew _)
 refine WC.seq<|f9 (N0:=w.heap.size) sb hb1 hc hs hs8 hn (by omega) ?_
 intro i wj hh;obtain⟨dv,hB,od,hI,hE⟩:=hh
 replace he:=he.then hE
 have nh:=he.size
 have nx0:=hB.lt
 have hI0:=hI
 obtain⟨p0,c0,hdv,_,_⟩:=hI0
 subst hdv
 refine jA 2 rfl<|la rfl hB ?_
 have hs2:=he.size
 replace hb1:=hb1.mono hE
 have hx2b1:=hb1.lt
 refine WL.l rfl (ll [_]) ?_
 rintro _ w2 ⟨rfl,hb2,e2⟩
 have ns2:=e2.size
 refine jD 6 rfl ?_
 replace hb1:=hb1.mono e2
 refine ld rfl hb1 rfl<|jD 15 rfl<|lT rfl rfl<|jD 2 rfl ?_
 replace hI:=hI.mono e2
 have hI:=hI.weaken (B:=fun b=>w.heap.size≤b∧b<w2.heap.size) (fun b hb h=>⟨h,hb⟩)
 have hbO:=ct hb2
 replace hB:=hB.mono e2
 replace he:=he.then e2
 refine jY (N0:=w.heap.size) (m:=82) rfl rfl sb hb1 hbO hI hb2.lt hn (by omega) ?_
 have hI1:eP (.mk 4 n t ks o d) (82,bigB n 1):=⟨82,rfl,.uint1 (by omega)⟩
 intro i wj hh;obtain⟨B,cs,nB,hO,hV,oc,hE⟩:=hh
 have nB':w.heap.size≤B:=by omega
 refine jA 3 rfl ?_
 refine WL.q rfl (r_cmp (r_eql rfl rfl) (beqT (by(omega)))) ?_
 refine jD 3 rfl ?_
 replace he:=he.then hE
 have hs3:=he.size
 replace hb1:=hb1.mono hE
 have hx3b1:=hb1.lt
 replace hb2:=hb2.mono hE
 have hx3b2:=hb2.lt
 refine WL.l rfl (l_mkMap Fo.h (fun o h=>by cases h)) ?_
 rintro _ w3 ⟨rfl,hm3,e3⟩
 have nx3:=hm3.lt
 have ns3:=e3.size
 refine WL.l0 (l_ins (l:=[]) Fo.h Fo.h rfl rfl rfl hm3 rfl) ?_
 rintro _ w4 ⟨hm3,e4⟩
 have ns4:=e4.size
 refine WL.l0 (l_ins (l:=[(4,67)]) Fo.h Fo.h rfl rfl rfl hm3 rfl) ?_
 rintro _ w5 ⟨hm3,e5⟩
 have ns5:=e5.size
 refine jC 2 rfl ?_
 replace hb1:=hb1.mono ((e3.then e4).then e5)
 refine ld rfl hb1 rfl ?_
 refine WL.q rfl (r_as (b:=67) (r_lookI (l:=[(4,67),(5,68)]) Fo.h Fo.h aV rfl rfl (Ext.refl _) hm3) (by decide)) ?_
 refine WL.q rfl (r_bld (cs:=[_,_]) Fo.h rfl rfl) ?_
 refine WL.l rfl (l_litO (vs:=[_]) Fo.h rfl rfl rfl rfl rfl) ?_
 rintro v6 w6 ⟨rfl,hOl,e6⟩
 have hbl6:=hOl.lt _ rfl
 have ns6:=e6.size
 refine jC 1 rfl ?_
 replace hO:=(hO.mono ((e3.then e4).then e5)).mono e6
 refine WL.l rfl (l_app Fo.h rfl rfl hOl (Src.own Fb.h hO (by omega) oc) (by omega) (by simp only[maxLen];omega) (by omega)) ?_
 rintro v7 w7 ⟨hOf,e7⟩
 have ns7:=e7.size
 refine jD 7 rfl<|WC.ret ?_
 have hI2:eP (.mk 4 n t ks o d) (67,[]):=⟨67,rfl,by rw[hz];exact .uint0⟩
 replace hV:=((hV.mono ((e3.then e4).then e5)).mono e6).mono e7
 replace he:=((he.then ((e3.then e4).then e5)).then e6).then e7
 exact fin1 rfl ⟨⟨_,⟨fun p hp=>by rcases List.mem_cons.1 hp with e|hp;exact e▸hI2;rcases List.mem_cons.1 hp with e|hp;exact e▸hI1;exact List.mem_singleton.1 hp▸hPI,by simp,by simp,hfull _ (by simp)⟩,aX.own hOf rfl (am.append (am.one (p:=(67,[])) IsB.nil) (hV.weaken fun b h=>h.1)) (fun b hb=>by show w.heap.size≤b;omega)⟩,he⟩
theorem kM{A:Nat→Prop}{k:Int}{n s:Nat}{u:UInt8}{t:List UInt8}{ks:List V}{o:Int}{d:List V}{cx:List Value}{w:World}(hx:ag A w (.mk k n t ks o d) cx)(hc:bU k=(u.toNat:Int))(hs:j9 k=(s:Int))(hs8:s≤8)(hP:Pc (.mk k n t ks o d) u (bigB n s))(hn:n<18446744073709551616)(hk:k=5)(hq:256≤n):
  Does TP 89 [.agg cx.toArray] w fun r w'=>cD w.heap.size (.mk k n t ks o d) r w'∧Ext w w':=by
 have hfull:∀ps:List cj,(bU k,bigB n s)∈ps→arrK (V.mk k n t ks o d).kind→∃p∈ps,p.1=bU (V.mk k n t ks o d).kind:=fun ps h _=>⟨_,h,rfl⟩
 have hPI:eP (.mk k n t ks o d) ((u.toNat:Int),bigB n s):=⟨u,rfl,hP⟩
 rw[hc]at hfull
 subst hk
 obtain⟨pk,ck,pd,cd,rfl,_,_,_,_⟩:=hx.openV
 refine do1 Tryz.func89 ?_
 have he:Evo (fun _=>True) w w:=Evo.refl w
 refine jA 2 rfl ?_
 have hs1:=he.size
 refine bx rfl ?_
 rintro _ w1 ⟨rfl,hb1,e1⟩
 have nx1:=hb1.lt
 have ns1:=e1.size
 refine jC 2 rfl ?_
 refine WC.seq<|WC.regionD (tt [0,1,2,3,4,5,6]) (Ext _) mixed (by kernel_rfl) (Ext.drew _) ?_
 have nd1w1:w1.drew.heap.size=w1.heap.size:=rfl
 refine jE 1 rfl<|dl rfl hb1 rfl<|jE 1 rfl<|dl rfl hb1 rfl ?_
 refine WD.q rfl (fun _ hS=>r_cvInt Fo.h rfl) ?_
 refine jE 2 rfl<|WD.nil ?_
 replace hb1:=hb1.mono (Ext.drew _)
 replace he:=(he.then e1).then (Ext.drew _)
 refine WC.seq<|f9 (N0:=w.heap.size) sb hb1 hc hs hs8 hn (by omega) ?_
 intro i wj hh;obtain⟨dv,hB,od,hI,hE⟩:=hh
 replace he:=he.then hE
 have nh:=he.size
 refine jA 2 rfl<|la rfl hB ?_
 have hs2:=he.size
 replace hb1:=hb1.mono hE
 have hx2b1:=hb1.lt
 refine WL.l rfl (ll [_]) ?_
 rintro _ w2 ⟨rfl,hb2,e2⟩
 have ns2:=e2.size
 refine jD 6 rfl ?_
 replace hb1:=hb1.mono e2
 refine ld rfl hb1 rfl<|jD 18 rfl<|lF rfl rfl<|jD 3 rfl<|jA 3 rfl ?_
 refine WL.q rfl (r_cmp (r_eql rfl rfl) (beqF (by(omega)))) ?_
 refine jD 3 rfl<|jA 5 rfl<|WC.ret ?_
 exact jv
theorem ia{A:Nat→Prop}{k:Int}{n s:Nat}{u:UInt8}{t:List UInt8}{ks:List V}{o:Int}{d:List V}{cx:List Value}{w:World}(hx:ag A w (.mk k n t ks o d) cx)(hc:bU k=(u.toNat:Int))(hs:j9 k=(s:Int))(hs8:s≤8)(hP:Pc (.mk k n t ks o d) u (bigB n s))(hn:n<18446744073709551616)(hk:k=5)(hq:n<256)(hz:0<n):
  Does TP 89 [.agg cx.toArray] w fun r w'=>cD w.heap.size (.mk k n t ks o d) r w'∧Ext w w':=by
 have hfull:∀ps:List cj,(bU k,bigB n s)∈ps→arrK (V.mk k n t ks o d).kind→∃p∈ps,p.1=bU (V.mk k n t ks o d).kind:=fun ps h _=>⟨_,h,rfl⟩
 have hPI:eP (.mk k n t ks o d) ((u.toNat:Int),bigB n s):=⟨u,rfl,hP⟩
 rw[hc]at hfull
 subst hk
 obtain⟨pk,ck,pd,cd,rfl,_,_,_,_⟩:=hx.openV
 refine do1 Tryz.func89 ?_
 have he:Evo (fun _=>True) w w:=Evo.refl w
 refine jA 2 rfl ?_
 have hs1:=he.size
 refine bx rfl ?_
 rintro _ w1 ⟨rfl,hb1,e1⟩
 have nx1:=hb1.lt
 have ns1:=e1.size
 refine jC 2 rfl ?_
 refine WC.seq<|WC.regionD (tt [0,1,2,3,4,5,6]) (Ext _) mixed (by kernel_rfl) (Ext.drew _) ?_
 have nd1w1:w1.drew.heap.size=w1.heap.size:=rfl
 refine jE 1 rfl<|dl rfl hb1 rfl<|jE 1 rfl<|dl rfl hb1 rfl ?_
 refine WD.q rfl (fun _ hS=>r_cvInt Fo.h rfl) ?_
 refine jE 2 rfl<|WD.nil ?_
 replace hb1:=hb1.mono (Ext.drew _)
 replace he:=(he.then e1).then (Ext.drew _)
 refine WC.seq<|f9 (N0:=w.heap.size) sb hb1 hc hs hs8 hn (by omega) ?_
 intro i wj hh;obtain⟨dv,hB,od,hI,hE⟩:=hh
 replace he:=he.then hE
 have nh:=he.size
 have nx0:=hB.lt
 have hI0:=hI
 obtain⟨p0,c0,hdv,_,_⟩:=hI0
 subst hdv
 refine jA 2 rfl<|la rfl hB ?_
 have hs2:=he.size
 replace hb1:=hb1.mono hE
 have hx2b1:=hb1.lt
 refine WL.l rfl (ll [_]) ?_
 rintro _ w2 ⟨rfl,hb2,e2⟩
 have ns2:=e2.size
 refine jD 6 rfl ?_
 replace hb1:=hb1.mono e2
 refine ld rfl hb1 rfl<|jD 18 rfl<|lT rfl rfl<|jD 2 rfl ?_
 replace hI:=hI.mono e2
 have hI:=hI.weaken (B:=fun b=>w.heap.size≤b∧b<w2.heap.size) (fun b hb h=>⟨h,hb⟩)
 have hbO:=ct hb2
 replace hB:=hB.mono e2
 replace he:=he.then e2
 refine jY (N0:=w.heap.size) (m:=83) rfl rfl sb hb1 hbO hI hb2.lt hn (by omega) ?_
 have hI1:eP (.mk 5 n t ks o d) (83,bigB n 1):=⟨83,rfl,.ulong1 (by omega)⟩
 exact k9
set_option maxHeartbeats 1000000 in
theorem jR{A:Nat→Prop}{k:Int}{n s:Nat}{u:UInt8}{t:List UInt8}{ks:List V}{o:Int}{d:List V}{cx:List Value}{w:World}(hx:ag A w (.mk k n t ks o d) cx)(hc:bU k=(u.toNat:Int))(hs:j9 k=(s:Int))(hs8:s≤8)(hP:Pc (.mk k n t ks o d) u (bigB n s))(hn:n<18446744073709551616)(hk:k=5)(hz:n=0):
  Does TP 89 [.agg cx.toArray] w fun r w'=>cD w.heap.size (.mk k n t ks o d) r w'∧Ext w w':=by
 have hfull:∀ps:List cj,(bU k,bigB n s)∈ps→arrK (V.mk k n t ks o d).kind→∃p∈ps,p.1=bU (V.mk k n t ks o d).kind:=fun ps h _=>⟨_,h,rfl⟩
 have hPI:eP (.mk k n t ks o d) ((u.toNat:Int),bigB n s):=⟨u,rfl,hP⟩
 rw[hc]at hfull
 subst hk
 obtain⟨pk,ck,pd,cd,rfl,_,_,_,_⟩:=hx.openV
 refine do1 Tryz.func89 ?_
 have he:Evo (fun _=>True) w w:=Evo.refl w
 refine jA 2 rfl ?_
 have hs1:=he.size
 refine bx rfl ?_
 rintro _ w1 ⟨rfl,hb1,e1⟩
 have nx1:=hb1.lt
 have ns1:=e1.size
 refine jC 2 rfl ?_
 refine WC.seq<|WC.regionD (tt [0,1,2,3,4,5,6]) (Ext _) mixed (by kernel_rfl) (Ext.drew _) ?_
 have nd1w1:w1.drew.heap.size=w1.heap.size:=rfl
 refine jE 1 rfl<|dl rfl hb1 rfl<|jE 1 rfl<|dl rfl hb1 rfl ?_
 refine WD.q rfl (fun _ hS=>r_cvInt Fo.h rfl) ?_
 refine jE 2 rfl<|WD.nil ?_
 replace hb1:=hb1.mono (Ext.drew _)
 replace he:=(he.then e1).then (Ext.drew _)
 refine WC.seq<|f9 (N0:=w.heap.size) sb hb1 hc hs hs8 hn (by omega) ?_
 intro i wj hh;obtain⟨dv,hB,od,hI,hE⟩:=hh
 replace he:=he.then hE
 have nh:=he.size
 have nx0:=hB.lt
 have hI0:=hI
 obtain⟨p0,c0,hdv,_,_⟩:=hI0
 subst hdv
 refine jA 2 rfl<|la rfl hB ?_
 have hs2:=he.size
 replace hb1:=hb1.mono hE
 have hx2b1:=hb1.lt
 refine WL.l rfl (ll [_]) ?_
 rintro _ w2 ⟨rfl,hb2,e2⟩
 have ns2:=e2.size
 refine jD 6 rfl ?_
 replace hb1:=hb1.mono e2
 refine ld rfl hb1 rfl<|jD 18 rfl<|lT rfl rfl<|jD 2 rfl ?_
 replace hI:=hI.mono e2
 have hI:=hI.weaken (B:=fun b=>w.heap.size≤b∧b<w2.heap.size) (fun b hb h=>⟨h,hb⟩)
 have hbO:=ct hb2
 replace hB:=hB.mono e2
 replace he:=he.then e2
 refine jY (N0:=w.heap.size) (m:=83) rfl rfl sb hb1 hbO hI hb2.lt hn (by omega) ?_
 have hI1:eP (.mk 5 n t ks o d) (83,bigB n 1):=⟨83,rfl,.ulong1 (by omega)⟩
 intro i wj hh;obtain⟨B,cs,nB,hO,hV,oc,hE⟩:=hh
 have nB':w.heap.size≤B:=by omega
 refine jA 3 rfl ?_
 refine WL.q rfl (r_cmp (r_eql rfl rfl) (beqT (by(omega)))) ?_
 refine jD 3 rfl ?_
 replace he:=he.then hE
 have hs3:=he.size
 replace hb1:=hb1.mono hE
 have hx3b1:=hb1.lt
 replace hb2:=hb2.mono hE
 have hx3b2:=hb2.lt
 refine WL.l rfl (l_mkMap Fo.h (fun o h=>by cases h)) ?_
 rintro _ w3 ⟨rfl,hm3,e3⟩
 have nx3:=hm3.lt
 have ns3:=e3.size
 refine WL.l0 (l_ins (l:=[]) Fo.h Fo.h rfl rfl rfl hm3 rfl) ?_
 rintro _ w4 ⟨hm3,e4⟩
 have ns4:=e4.size
 refine WL.l0 (l_ins (l:=[(4,67)]) Fo.h Fo.h rfl rfl rfl hm3 rfl) ?_
 rintro _ w5 ⟨hm3,e5⟩
 have ns5:=e5.size
 refine jC 2 rfl ?_
 replace hb1:=hb1.mono ((e3.then e4).then e5)
 refine ld rfl hb1 rfl ?_
 refine WL.q rfl (r_as (b:=68) (r_lookI (l:=[(4,67),(5,68)]) Fo.h Fo.h aV rfl rfl (Ext.refl _) hm3) (by decide)) ?_
 refine WL.q rfl (r_bld (cs:=[_,_]) Fo.h rfl rfl) ?_
 refine WL.l rfl (l_litO (vs:=[_]) Fo.h rfl rfl rfl rfl rfl) ?_
 rintro v6 w6 ⟨rfl,hOl,e6⟩
 have hbl6:=hOl.lt _ rfl
 have ns6:=e6.size
 refine jC 1 rfl ?_
 replace hO:=(hO.mono ((e3.then e4).then e5)).mono e6
 refine WL.l rfl (l_app Fo.h rfl rfl hOl (Src.own Fb.h hO (by omega) oc) (by omega) (by simp only[maxLen];omega) (by omega)) ?_
 rintro v7 w7 ⟨hOf,e7⟩
 have ns7:=e7.size
 refine jD 7 rfl<|WC.ret ?_
 have hI2:eP (.mk 5 n t ks o d) (68,[]):=⟨68,rfl,by rw[hz];exact .ulong0⟩
 replace hV:=((hV.mono ((e3.then e4).then e5)).mono e6).mono e7
 replace he:=((he.then ((e3.then e4).then e5)).then e6).then e7
 exact fin1 rfl ⟨⟨_,⟨fun p hp=>by rcases List.mem_cons.1 hp with e|hp;exact e▸hI2;rcases List.mem_cons.1 hp with e|hp;exact e▸hI1;exact List.mem_singleton.1 hp▸hPI,by simp,by simp,hfull _ (by simp)⟩,aX.own hOf rfl (am.append (am.one (p:=(68,[])) IsB.nil) (hV.weaken fun b h=>h.1)) (fun b hb=>by show w.heap.size≤b;omega)⟩,he⟩
end Go.Proofs.LL
