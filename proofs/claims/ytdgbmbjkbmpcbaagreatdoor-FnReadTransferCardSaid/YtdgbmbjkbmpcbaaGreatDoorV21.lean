/- Contracts of functions and own laws. Conditions: those that each theorem states. -/
import Derived.Test.YtdgbmbjkbmpcbaaGreatDoorW20
set_option linter.all false
set_option autoImplicit true
set_option relaxedAutoImplicit true
set_option maxRecDepth 20000
namespace Go.Proofs.LL
open Go Go.Proofs Go.RowKit
set_option maxHeartbeats 4000000
attribute [local irreducible] ar WL WC cq WT WX
theorem vB{A:Prop}(h:A:=by
 rintro v3 w3 ⟨yy,rfl,⟨p,cc,cells,rfl,hcc,hV,hat⟩,hR,e3⟩
 refine q ?_
 exact bt rfl rfl ⟨_,rfl,by rw[bJ];exact .inr (.inr (.inl ⟨rfl,p,cc,cells,rfl,hcc,hV.k (fun b h=>by have:=e1.s;have:=e2.s;omega),hat.imp id (fun⟨b,h1,h2,h3⟩=>⟨b,h1,by have:=e1.s;have:=e2.s;omega,h3⟩)⟩)),hR,ch⟩):A:=h
theorem Ai{A:Prop}(h:A:=by
 replace hR:=hR.m e2
 refine cl rfl (oL (hks (.inr rfl)) (hMO rfl) h1 hh hR) ?_
 rintro v3 w3 ⟨yy,rfl,⟨m,kvs,kvs0,hm,hMp,hV,hy⟩,hR,e3⟩
 refine q ?_
 exact bt rfl rfl ⟨_,rfl,by rw[bJ];exact .inr (.inr (.inr (.inl ⟨rfl,m,kvs,kvs0,by have:=e1.s;have:=e2.s;omega,hMp,hV.k (fun b h=>by have:=e1.s;have:=e2.s;omega),hy⟩))),hR,ch⟩):A:=h
theorem vC{A:Prop}(h:A:=by
 replace hR:=hR.m e2
 refine Hm rfl (jp (x:=V.mk _ _ t ks o []) rfl (hN4 rfl) hP0 hR) fun w3 hR e3=>?_
 refine q ?_
 exact bt rfl rfl ⟨_,rfl,bJ.scal rfl,hR,ch⟩):A:=h
theorem vD{A:Prop}(h:A:=by
 replace hR:=hR.m e2
 refine Hm rfl (iC (x:=V.mk _ _ t ks o []) rfl hNL hP0 hR) fun w3 hR e3=>?_
 refine q ?_
 exact bt rfl rfl ⟨_,rfl,bJ.scal rfl,hR,ch⟩):A:=h
theorem vE{A:Prop}(h:A:=by
 replace hR:=hR.m e2
 refine Hm rfl (mA (x:=V.mk _ _ t ks o []) rfl hP0 hR) fun w3 hR e3=>?_
 refine q ?_
 exact bt rfl rfl ⟨_,rfl,bJ.scal rfl,hR,ch⟩):A:=h
theorem Aj{A:Prop}(h:A:=by
 replace hR:=hR.m e2
 refine cl rfl (mM (hAr rfl).1 (hAr rfl).2 h0 h1 hh hR) ?_
 rintro v3 w3 ⟨yy,rfl,hV,hR,e3⟩
 refine q ?_
 exact bt rfl rfl ⟨_,rfl,by rw[bJ];exact .inr (.inr (.inr (.inr ⟨rfl,hV.k (fun b h=>by have:=e1.s;have:=e2.s;omega)⟩))),hR,ch⟩):A:=h
theorem Ak{A:Prop}(h:A:=by
 replace hR:=hR.m e2
 refine cl rfl (j6 rfl hP0 hR) ?_
 rintro v3 w3 ⟨v,rfl,hV,hR,e3⟩
 refine q ?_
 exact bt rfl rfl ⟨_,rfl,by rw[bJ];exact .inr (.inl ⟨rfl,_,rfl,hV.k (fun b _ h=>by have:=e1.s;have:=e2.s;omega)⟩),hR,ch⟩):A:=h
theorem Al{A:Prop}(h:A:=by
 replace hR:=hR.m e2
 refine Hm rfl (uS (x:=V.mk _ _ t ks o []) rfl (hN8 rfl) hNL hP0 hR) fun w3 hR e3=>?_
 refine q ?_
 exact bt rfl rfl ⟨_,rfl,bJ.scal rfl,hR,ch⟩):A:=h
theorem Am{A:Prop}(h:A:=by
 replace hR:=hR.m e2
 refine Hm rfl (tg (x:=V.mk _ _ t ks o []) rfl hNL hP0 hR) fun w3 hR e3=>?_
 refine q ?_
 exact bt rfl rfl ⟨_,rfl,bJ.scal rfl,hR,ch⟩):A:=h
theorem wJ{A:Prop}(h:A:=by
 replace hR:=hR.m e2
 refine Hm rfl (eu (.inl rfl) hP0 hR) fun w3 hR e3=>?_
 refine q ?_
 exact bt rfl rfl ⟨_,rfl,bJ.scal rfl,hR,ch⟩):A:=h
theorem wK{A:Prop}(h:A:=by
 replace hR:=hR.m e2
 refine Hm rfl (eu (.inr rfl) hP0 hR) fun w3 hR e3=>?_
 refine q ?_
 exact bt rfl rfl ⟨_,rfl,bJ.scal rfl,hR,ch⟩):A:=h
theorem bJ.scal{k:Int}{o:Int}(h:scal k n t=some y):bJ A w (.mk k n t ks o d) y:=by
 simp only[bJ,wU];exact .inl h
theorem iz{k:Int}{c:UInt8}(h:iS k=some (c,s)):(k=2∧c=0x50∧s=1)∨(k=3∧c=0x60∧s=2)∨(k=4∧c=0x70∧s=4)∨(k=5∧c=0x80∧s=8)∨(k=6∧c=0x51∧s=1)∨(k=7∧c=0x61∧s=2)∨(k=8∧c=0x71∧s=4)∨(k=9∧c=0x81∧s=8)∨(k=10∧c=0x72∧s=4)∨(k=11∧c=0x82∧s=8)∨(k=16∧c=0x83∧s=8):=by
 unfold iS at h
 repeat' split at h
 all_goals first|(simp only[Option.some.injEq,Prod.mk.injEq]at h;obtain⟨rfl,rfl⟩:=h;subst_vars;simp;done)|cases h
theorem rY{k:Int}{o:Int}(hF:fh (.mk k n t ks o d))(hks:k=21∨k=22→∀y∈ks,gl y)(hMO:k=22→iI ks)(hAr:k=23→ks≠[]∧∀x∈ks,bI x∧(18≤x.kind→x.text≠[])):gl (.mk k n t ks o d):=by
 intro bs r w rb hE hR
 have:=hR.lt
 simp only[fh]at hF
 obtain⟨⟨hN,htl,ht17,hdn,hq1,hq2⟩,hq3⟩:=hF
 clear hq1 hq2 hq3
 simp only[V.kind,V.num,V.text,V.desc]at hN htl ht17 hdn
 obtain⟨hN1,hN2,hN3,hN4,hN6,hN7,hN8,hN10,hNL⟩:=hN
 subst hdn
 cases hE with
 |desc h _ _=>cases h
 |plain _ hP=>
 rename_i c data
 rw[List.cons_append]at hR
 have hP0:=hP
 cases hP
 case null=>
  refine cN Tryz.func135 ?_
  refine q ?_
  refine Hm rfl (fC hR) fun w1 hR e1=>?_
  refine q ?_
  exact bt rfl rfl ⟨_,rfl,bJ.scal rfl,hR,ch⟩
 case tt=>
  refine cN Tryz.func135 ?_
  refine q ?_
  refine Hl rfl (an hR (by decide)) fun w1 e1=>?_
  refine q ?_
  replace hR:=hR.m e1
  refine Hl rfl (aJ hR) fun w2 e2=>?_
  refine gx 6 rfl<|gq 4 rfl<|Hq (aB Fb.h rfl)<|WL.nil<|WC.condF rfl<|WC.skip<|gq 29 rfl ?_
  exact vE
 case ff=>
  refine cN Tryz.func135 ?_
  refine q ?_
  refine Hl rfl (an hR (by decide)) fun w1 e1=>?_
  refine q ?_
  replace hR:=hR.m e1
  refine Hl rfl (aJ hR) fun w2 e2=>?_
  refine gx 6 rfl<|gq 4 rfl<|Hq (aB Fb.h rfl)<|WL.nil<|WC.condF rfl<|WC.skip<|gq 32 rfl ?_
  exact vE
 case bool h=>
  refine cN Tryz.func135 ?_
  refine q ?_
  refine Hl rfl (an hR (by decide)) fun w1 e1=>?_
  refine q ?_
  replace hR:=hR.m e1
  refine Hl rfl (aJ hR) fun w2 e2=>?_
  refine q ?_
  exact vE
 case num s hc=>
  rcases iz hc with⟨rfl,rfl,rfl⟩|⟨rfl,rfl,rfl⟩|⟨rfl,rfl,rfl⟩|⟨rfl,rfl,rfl⟩|⟨rfl,rfl,rfl⟩|⟨rfl,rfl,rfl⟩|⟨rfl,rfl,rfl⟩|⟨rfl,rfl,rfl⟩|⟨rfl,rfl,rfl⟩|⟨rfl,rfl,rfl⟩|⟨rfl,rfl,rfl⟩
  ·refine cN Tryz.func135 ?_
   refine q ?_
   refine Hl rfl (an hR (by decide)) fun w1 e1=>?_
   refine q ?_
   replace hR:=hR.m e1
   refine Hl rfl (aJ hR) fun w2 e2=>?_
   refine gx 6 rfl<|gq 4 rfl<|Hq (aB Fb.h rfl)<|WL.nil<|WC.condF rfl<|WC.skip<|gq 38 rfl ?_
   replace hR:=hR.m e2
   refine Hm rfl (k9 (x:=V.mk _ _ t ks o []) rfl (hN2 rfl) hP0 hR) fun w3 hR e3=>?_
   refine q ?_
   exact bt rfl rfl ⟨_,rfl,bJ.scal rfl,hR,ch⟩
  ·refine cN Tryz.func135 ?_
   refine q ?_
   refine Hl rfl (an hR (by decide)) fun w1 e1=>?_
   refine q ?_
   replace hR:=hR.m e1
   refine Hl rfl (aJ hR) fun w2 e2=>?_
   refine gx 6 rfl<|gq 4 rfl<|Hq (aB Fb.h rfl)<|WL.nil<|WC.condF rfl<|WC.skip<|gq 44 rfl ?_
   replace hR:=hR.m e2
   refine Hm rfl (oS (x:=V.mk _ _ t ks o []) rfl (hN3 rfl) hP0 hR) fun w3 hR e3=>?_
   refine q ?_
   exact bt rfl rfl ⟨_,rfl,bJ.scal rfl,hR,ch⟩
  ·refine cN Tryz.func135 ?_
   refine q ?_
   refine Hl rfl (an hR (by decide)) fun w1 e1=>?_
   refine q ?_
   replace hR:=hR.m e1
   refine Hl rfl (aJ hR) fun w2 e2=>?_
   refine gx 6 rfl<|gq 4 rfl<|Hq (aB Fb.h rfl)<|WL.nil<|WC.condF rfl<|WC.skip<|gq 53 rfl ?_
   exact vC
  ·refine cN Tryz.func135 ?_
   refine q ?_
   refine Hl rfl (an hR (by decide)) fun w1 e1=>?_
   refine q ?_
   replace hR:=hR.m e1
   refine Hl rfl (aJ hR) fun w2 e2=>?_
   refine gx 6 rfl<|gq 4 rfl<|Hq (aB Fb.h rfl)<|WL.nil<|WC.condF rfl<|WC.skip<|gq 71 rfl ?_
   exact vD
  ·refine cN Tryz.func135 ?_
   refine q ?_
   refine Hl rfl (an hR (by decide)) fun w1 e1=>?_
   refine q ?_
   replace hR:=hR.m e1
   refine Hl rfl (aJ hR) fun w2 e2=>?_
   refine gx 6 rfl<|gq 4 rfl<|Hq (aB Fb.h rfl)<|WL.nil<|WC.condF rfl<|WC.skip<|gq 86 rfl ?_
   replace hR:=hR.m e2
   refine Hm rfl (rz (x:=V.mk _ _ t ks o []) rfl (hN6 rfl) hP0 hR) fun w3 hR e3=>?_
   refine q ?_
   exact bt rfl rfl ⟨_,rfl,bJ.scal rfl,hR,ch⟩
  ·refine cN Tryz.func135 ?_
   refine q ?_
   refine Hl rfl (an hR (by decide)) fun w1 e1=>?_
   refine q ?_
   replace hR:=hR.m e1
   refine Hl rfl (aJ hR) fun w2 e2=>?_
   refine gx 6 rfl<|gq 4 rfl<|Hq (aB Fb.h rfl)<|WL.nil<|WC.condF rfl<|WC.skip<|gq 92 rfl ?_
   replace hR:=hR.m e2
   refine Hm rfl (rB (x:=V.mk _ _ t ks o []) rfl (hN7 rfl) hP0 hR) fun w3 hR e3=>?_
   refine q ?_
   exact bt rfl rfl ⟨_,rfl,bJ.scal rfl,hR,ch⟩
  ·refine cN Tryz.func135 ?_
   refine q ?_
   refine Hl rfl (an hR (by decide)) fun w1 e1=>?_
   refine q ?_
   replace hR:=hR.m e1
   refine Hl rfl (aJ hR) fun w2 e2=>?_
   refine gx 6 rfl<|gq 4 rfl<|Hq (aB Fb.h rfl)<|WL.nil<|WC.condF rfl<|WC.skip<|gq 101 rfl ?_
   exact Al
  ·refine cN Tryz.func135 ?_
   refine q ?_
   refine Hl rfl (an hR (by decide)) fun w1 e1=>?_
   refine q ?_
   replace hR:=hR.m e1
   refine Hl rfl (aJ hR) fun w2 e2=>?_
   refine gx 6 rfl<|gq 4 rfl<|Hq (aB Fb.h rfl)<|WL.nil<|WC.condF rfl<|WC.skip<|gq 113 rfl ?_
   exact Am
  ·refine cN Tryz.func135 ?_
   refine q ?_
   refine Hl rfl (an hR (by decide)) fun w1 e1=>?_
   refine q ?_
   replace hR:=hR.m e1
   refine Hl rfl (aJ hR) fun w2 e2=>?_
   refine gx 6 rfl<|gq 4 rfl<|Hq (aB Fb.h rfl)<|WL.nil<|WC.condF rfl<|WC.skip<|gq 122 rfl ?_
   replace hR:=hR.m e2
   refine Hm rfl (rt (x:=V.mk _ _ t ks o []) rfl (hN10 rfl) hP0 hR) fun w3 hR e3=>?_
   refine q ?_
   exact bt rfl rfl ⟨_,rfl,bJ.scal rfl,hR,ch⟩
  ·refine cN Tryz.func135 ?_
   refine q ?_
   refine Hl rfl (an hR (by decide)) fun w1 e1=>?_
   refine q ?_
   replace hR:=hR.m e1
   refine Hl rfl (aJ hR) fun w2 e2=>?_
   refine gx 6 rfl<|gq 4 rfl<|Hq (aB Fb.h rfl)<|WL.nil<|WC.condF rfl<|WC.skip<|gq 128 rfl ?_
   replace hR:=hR.m e2
   refine Hm rfl (oN (x:=V.mk _ _ t ks o []) rfl hNL hP0 hR) fun w3 hR e3=>?_
   refine q ?_
   exact bt rfl rfl ⟨_,rfl,bJ.scal rfl,hR,ch⟩
  ·refine cN Tryz.func135 ?_
   refine q ?_
   refine Hl rfl (an hR (by decide)) fun w1 e1=>?_
   refine q ?_
   replace hR:=hR.m e1
   refine Hl rfl (aJ hR) fun w2 e2=>?_
   refine gx 6 rfl<|gq 4 rfl<|Hq (aB Fb.h rfl)<|WL.nil<|WC.condF rfl<|WC.skip<|gq 170 rfl ?_
   replace hR:=hR.m e2
   refine Hm rfl (th (x:=V.mk _ _ t ks o []) rfl hNL hP0 hR) fun w3 hR e3=>?_
   refine q ?_
   exact bt rfl rfl ⟨_,rfl,bJ.scal rfl,hR,ch⟩
 case uint0=>
  refine cN Tryz.func135 ?_
  refine q ?_
  refine Hl rfl (an hR (by decide)) fun w1 e1=>?_
  refine q ?_
  replace hR:=hR.m e1
  refine Hl rfl (aJ hR) fun w2 e2=>?_
  refine gx 6 rfl<|gq 4 rfl<|Hq (aB Fb.h rfl)<|WL.nil<|WC.condF rfl<|WC.skip<|gq 62 rfl ?_
  exact vC
 case uint1 h=>
  refine cN Tryz.func135 ?_
  refine q ?_
  refine Hl rfl (an hR (by decide)) fun w1 e1=>?_
  refine q ?_
  replace hR:=hR.m e1
  refine Hl rfl (aJ hR) fun w2 e2=>?_
  refine gx 6 rfl<|gq 4 rfl<|Hq (aB Fb.h rfl)<|WL.nil<|WC.condF rfl<|WC.skip<|gq 59 rfl ?_
  exact vC
 case ulong0=>
  refine cN Tryz.func135 ?_
  refine q ?_
  refine Hl rfl (an hR (by decide)) fun w1 e1=>?_
  refine q ?_
  replace hR:=hR.m e1
  refine Hl rfl (aJ hR) fun w2 e2=>?_
  refine gx 6 rfl<|gq 4 rfl<|Hq (aB Fb.h rfl)<|WL.nil<|WC.condF rfl<|WC.skip<|gq 80 rfl ?_
  exact vD
 case ulong1 h=>
  refine cN Tryz.func135 ?_
  refine q ?_
  refine Hl rfl (an hR (by decide)) fun w1 e1=>?_
  refine q ?_
  replace hR:=hR.m e1
  refine Hl rfl (aJ hR) fun w2 e2=>?_
  refine gx 6 rfl<|gq 4 rfl<|Hq (aB Fb.h rfl)<|WL.nil<|WC.condF rfl<|WC.skip<|gq 77 rfl ?_
  exact vD
 case int1 h=>
  refine cN Tryz.func135 ?_
  refine q ?_
  refine Hl rfl (an hR (by decide)) fun w1 e1=>?_
  refine q ?_
  replace hR:=hR.m e1
  refine Hl rfl (aJ hR) fun w2 e2=>?_
  refine gx 6 rfl<|gq 4 rfl<|Hq (aB Fb.h rfl)<|WL.nil<|WC.condF rfl<|WC.skip<|gq 104 rfl ?_
  exact Al
 case long1 h=>
  refine cN Tryz.func135 ?_
  refine q ?_
  refine Hl rfl (an hR (by decide)) fun w1 e1=>?_
  refine q ?_
  replace hR:=hR.m e1
  refine Hl rfl (aJ hR) fun w2 e2=>?_
  refine gx 6 rfl<|gq 4 rfl<|Hq (aB Fb.h rfl)<|WL.nil<|WC.condF rfl<|WC.skip<|gq 116 rfl ?_
  exact Am
 case uuid=>
  refine cN Tryz.func135 ?_
  refine q ?_
  refine Hl rfl (an hR (by decide)) fun w1 e1=>?_
  refine q ?_
  replace hR:=hR.m e1
  refine Hl rfl (aJ hR) fun w2 e2=>?_
  refine gx 6 rfl<|gq 4 rfl<|Hq (aB Fb.h rfl)<|WL.nil<|WC.condF rfl<|WC.skip<|gq 176 rfl ?_
  replace hR:=hR.m e2
  refine Hm rfl (tj (x:=V.mk _ _ t ks o []) rfl (ht17 rfl) hP0 hR) fun w3 hR e3=>?_
  refine q ?_
  exact bt rfl rfl ⟨_,rfl,bJ.scal rfl,hR,ch⟩
 case bin1 h=>
  refine cN Tryz.func135 ?_
  refine q ?_
  refine Hl rfl (an hR (by decide)) fun w1 e1=>?_
  refine q ?_
  replace hR:=hR.m e1
  refine Hl rfl (aJ hR) fun w2 e2=>?_
  refine gx 6 rfl<|gq 4 rfl<|Hq (aB Fb.h rfl)<|WL.nil<|WC.condF rfl<|WC.skip<|gq 137 rfl ?_
  exact Ak
 case bin4 h=>
  refine cN Tryz.func135 ?_
  refine q ?_
  refine Hl rfl (an hR (by decide)) fun w1 e1=>?_
  refine q ?_
  replace hR:=hR.m e1
  refine Hl rfl (aJ hR) fun w2 e2=>?_
  refine gx 6 rfl<|gq 4 rfl<|Hq (aB Fb.h rfl)<|WL.nil<|WC.condF rfl<|WC.skip<|gq 140 rfl ?_
  exact Ak
 case str1 h=>
  refine cN Tryz.func135 ?_
  refine q ?_
  refine Hl rfl (an hR (by decide)) fun w1 e1=>?_
  refine q ?_
  replace hR:=hR.m e1
  refine Hl rfl (aJ hR) fun w2 e2=>?_
  refine gx 6 rfl<|gq 4 rfl<|Hq (aB Fb.h rfl)<|WL.nil<|WC.condF rfl<|WC.skip<|gq 149 rfl ?_
  exact wJ
 case str4 h=>
  refine cN Tryz.func135 ?_
  refine q ?_
  refine Hl rfl (an hR (by decide)) fun w1 e1=>?_
  refine q ?_
  replace hR:=hR.m e1
  refine Hl rfl (aJ hR) fun w2 e2=>?_
  refine gx 6 rfl<|gq 4 rfl<|Hq (aB Fb.h rfl)<|WL.nil<|WC.condF rfl<|WC.skip<|gq 152 rfl ?_
  exact wJ
 case sym1 h=>
  refine cN Tryz.func135 ?_
  refine q ?_
  refine Hl rfl (an hR (by decide)) fun w1 e1=>?_
  refine q ?_
  replace hR:=hR.m e1
  refine Hl rfl (aJ hR) fun w2 e2=>?_
  refine gx 6 rfl<|gq 4 rfl<|Hq (aB Fb.h rfl)<|WL.nil<|WC.condF rfl<|WC.skip<|gq 161 rfl ?_
  exact wK
 case sym4 h=>
  refine cN Tryz.func135 ?_
  refine q ?_
  refine Hl rfl (an hR (by decide)) fun w1 e1=>?_
  refine q ?_
  replace hR:=hR.m e1
  refine Hl rfl (aJ hR) fun w2 e2=>?_
  refine gx 6 rfl<|gq 4 rfl<|Hq (aB Fb.h rfl)<|WL.nil<|WC.condF rfl<|WC.skip<|gq 164 rfl ?_
  exact wK
 case list0=>
  refine cN Tryz.func135 ?_
  refine q ?_
  refine Hl rfl (an hR (by decide)) fun w1 e1=>?_
  refine q ?_
  replace hR:=hR.m e1
  refine Hl rfl (aJ hR) fun w2 e2=>?_
  refine gx 6 rfl<|gq 4 rfl<|Hq (aB Fb.h rfl)<|WL.nil<|WC.condF rfl<|WC.skip<|gq 197 rfl ?_
  replace hR:=hR.m e2
  refine cl rfl (gb (ks:=[]) (hd:=[0x45]) (body:=[]) (by simp) .nil (.inl ⟨rfl,rfl,rfl⟩) hR) ?_
  exact vB
 case list hd body h1 h2=>
  have hh:=h2
  rw[List.append_assoc]at hR
  rcases h2 with⟨s1,s2,rfl,_⟩|⟨_,_,_,_,_,_,_,_,rfl,_⟩
  ·refine cN Tryz.func135 ?_
   refine q ?_
   refine Hl rfl (an hR (by decide)) fun w1 e1=>?_
   refine q ?_
   replace hR:=hR.m e1
   refine Hl rfl (aJ hR) fun w2 e2=>?_
   refine gx 6 rfl<|gq 4 rfl<|Hq (aB Fb.h rfl)<|WL.nil<|WC.condF rfl<|WC.skip<|gq 203 rfl ?_
   replace hR:=hR.m e2
   refine cl rfl (gb (hks (.inl rfl)) h1 hh.lst hR) ?_
   exact vB
  ·refine cN Tryz.func135 ?_
   refine q ?_
   refine Hl rfl (an hR (by decide)) fun w1 e1=>?_
   refine q ?_
   replace hR:=hR.m e1
   refine Hl rfl (aJ hR) fun w2 e2=>?_
   refine gx 6 rfl<|gq 4 rfl<|Hq (aB Fb.h rfl)<|WL.nil<|WC.condF rfl<|WC.skip<|gq 206 rfl ?_
   replace hR:=hR.m e2
   refine cl rfl (gb (hks (.inl rfl)) h1 hh.lst hR) ?_
   exact vB
 case map hd body h1 h2=>
  have hh:=h2
  rw[List.append_assoc]at hR
  rcases h2 with⟨s1,s2,rfl,_⟩|⟨_,_,_,_,_,_,_,_,rfl,_⟩
  ·refine cN Tryz.func135 ?_
   refine q ?_
   refine Hl rfl (an hR (by decide)) fun w1 e1=>?_
   refine q ?_
   replace hR:=hR.m e1
   refine Hl rfl (aJ hR) fun w2 e2=>?_
   refine gx 6 rfl<|gq 4 rfl<|Hq (aB Fb.h rfl)<|WL.nil<|WC.condF rfl<|WC.skip<|gq 212 rfl ?_
   exact Ai
  ·refine cN Tryz.func135 ?_
   refine q ?_
   refine Hl rfl (an hR (by decide)) fun w1 e1=>?_
   refine q ?_
   replace hR:=hR.m e1
   refine Hl rfl (aJ hR) fun w2 e2=>?_
   refine gx 6 rfl<|gq 4 rfl<|Hq (aB Fb.h rfl)<|WL.nil<|WC.condF rfl<|WC.skip<|gq 218 rfl ?_
   exact Ai
 case arr h0 h1 h2=>
  have hh:=h2
  rw[List.append_assoc]at hR
  rcases h2 with⟨s1,s2,rfl,_⟩|⟨_,_,_,_,_,_,_,_,rfl,_⟩
  ·refine cN Tryz.func135 ?_
   refine q ?_
   refine Hl rfl (an hR (by decide)) fun w1 e1=>?_
   refine q ?_
   replace hR:=hR.m e1
   refine Hl rfl (aJ hR) fun w2 e2=>?_
   refine gx 6 rfl<|gq 4 rfl<|Hq (aB Fb.h rfl)<|WL.nil<|WC.condF rfl<|WC.skip<|gq 185 rfl ?_
   exact Aj
  ·refine cN Tryz.func135 ?_
   refine q ?_
   refine Hl rfl (an hR (by decide)) fun w1 e1=>?_
   refine q ?_
   replace hR:=hR.m e1
   refine Hl rfl (aJ hR) fun w2 e2=>?_
   refine gx 6 rfl<|gq 4 rfl<|Hq (aB Fb.h rfl)<|WL.nil<|WC.condF rfl<|WC.skip<|gq 188 rfl ?_
   exact Aj
theorem fh.mapOK{o:Int}(h:fh (.mk 22 n t ks o d)):iI ks:=by
 rw[fh]at h
 obtain⟨_,_,_,_,_,_,h,_⟩:=h
 obtain⟨h1,h2,h3,h4⟩:=h rfl
 refine⟨h2,fun x hx=>⟨h3 x hx,?_⟩,h4⟩
 have key:∀l:List V,cG l→∀x∈aP l,bI x:=by
  intro l
  induction l using aP.induct with
  |case1 k v r ih=>
   intro hl x hx
   simp only[cG]at hl
   simp only[aP,List.mem_cons]at hx
   rcases hx with rfl|hx
   ·obtain⟨k',n',t',ks',o',d'⟩:=x
    have:=hl.1
    simp only[fh]at this
    exact this.1
   ·exact ih hl.2.2 x hx
  |case2 l h=>
   intro _ x hx
   match l,h with
   |[],_=>simp[aP]at hx
   |[a],_=>simp[aP]at hx
   |a::b::r,h=>exact absurd rfl (h a b r)
 exact key ks h1 x hx
mutual
theorem reads:∀x:V,fh x→gl x
 | .mk k n t ks o d,h=>rY h (fun hk=>by
   rw[fh]at h
   rcases hk with rfl|rfl
   ·exact rG ks (h.2.2.2.2.2.1 rfl)
   ·exact rG ks (h.2.2.2.2.2.2.1 rfl).1) (fun hk=>by subst hk;exact h.mapOK) (fun hk=>by
   rw[fh]at h
   obtain⟨h1,kk,h2,h3⟩:=h.2.2.2.2.2.2.2 hk
   exact⟨h1,fun x hx=>⟨(h3 x hx).2.1,fun hk2=>(h3 x hx).2.2 (by rw[← (h3 x hx).1];exact hk2)⟩⟩)
theorem rG:∀l:List V,cG l→∀x∈l,gl x
 |[],_,x,hx=>by cases hx
 |a::r,h,x,hx=>by
  simp only[cG]at h
  rcases List.mem_cons.1 hx with e|hx
  ·exact e▸reads a h.1
  ·exact rG r h.2 x hx
end
def cC(A:Nat→Prop)(w:World):List V→List (List UInt8×Value)→Prop
 |[],l=>l=[]
 |[_],l=>l=[]
 |k::v::r,l=>∃b l',l=(k.text,b)::l'∧bJ A w v b∧cC A w r l'
section
variable {A B:Nat→Prop} {w w':World}
theorem cC.m':∀ {ks:List V} {l:List (List UInt8×Value)},cC A w ks l→am B w w'→(∀b,b<w.heap.size→A b→B b)→cC A w' ks l
 |[],l,h,_,_=>by simpa only[cC]using h
 |[_],l,h,_,_=>by simpa only[cC]using h
 |k::v::r,l,h,e,hAB=>by
  simp only[cC]at h⊢
  obtain⟨b,l',h1,h3,h4⟩:=h
  exact⟨b,l',h1,bJ.m' h3 e hAB,cC.m' h4 e hAB⟩
theorem cC.m(h:cC A w x y)(e:am B w w')(hAB:∀b,b<w.heap.size→A b→B b:=by(intro b hb1 hb2;first|exact trivial|exact hb2|((try dsimp only[Nb]at hb2⊢);omega))):cC A w' x y:=h.m' e hAB
theorem cC.k:∀ {ks:List V} {l:List (List UInt8×Value)},cC A w ks l→(∀b,A b→B b)→cC B w ks l
 |[],l,h,_=>by simpa only[cC]using h
 |[_],l,h,_=>by simpa only[cC]using h
 |k::v::r,l,h,hAB=>by
  simp only[cC]at h⊢
  obtain⟨b,l',h1,h3,h4⟩:=h
  exact⟨b,l',h1,bJ.k h3 hAB,cC.k h4 hAB⟩
theorem cC.snoc:∀ {ks:List V} {l:List (List UInt8×Value)} {x y:V} {b:Value},ks.length%2=0→cC A w ks l→bJ A w y b→cC A w (ks++[x,y]) (l++[(x.text,b)])
 |[],l,x,y,b,_,h,h2=>by
  simp only[cC]at h
  subst h
  simp only[List.nil_append,cC]
  exact⟨b,[],rfl,h2,rfl⟩
 |[_],l,x,y,b,h0,_,_=>by simp at h0
 |k::v::r,l,x,y,b,h0,h,h2=>by
  simp only[cC]at h
  obtain⟨d,l',rfl,h4,h5⟩:=h
  simp only[List.cons_append,cC]
  exact⟨d,l'++[(x.text,b)],rfl,h4,cC.snoc (by simp at h0;omega) h5 h2⟩
theorem cC.length:∀ {ks:List V} {l:List (List UInt8×Value)},cC A w ks l→l.length=ks.length / 2
 |[],l,h=>by simp only[cC]at h;simp[h]
 |[_],l,h=>by simp only[cC]at h;simp[h]
 |k::v::r,l,h=>by
  simp only[cC]at h
  obtain⟨b,l',rfl,_,h4⟩:=h
  simp[cC.length h4];omega
theorem cC.keys:∀ {ks:List V} {l:List (List UInt8×Value)},cC A w ks l→∀p∈l,∃x∈aP ks,p.1=x.text
 |[],l,h,p,hp=>by simp only[cC]at h;subst h;cases hp
 |[_],l,h,p,hp=>by simp only[cC]at h;subst h;cases hp
 |k::v::r,l,h,p,hp=>by
  simp only[cC]at h
  obtain⟨b,l',rfl,h2,h3⟩:=h
  rcases List.mem_cons.1 hp with rfl|hp
  ·exact⟨k,by simp[aP],rfl⟩
  ·obtain⟨x,hx,h4⟩:=cC.keys h3 p hp
   exact⟨x,by simp[aP,hx],h4⟩
end
def xP(p:List UInt8×Value):Value×Value:=(str p.1,p.2)
theorem wy{x y:V}(hx:x.kind=19∨x.kind=20)(hy:y.kind=19∨y.kind=20)(px:bI x)(py:bI y)(h:eU x≠eU y):x.text≠y.text:=by
 intro e
 apply h
 unfold eU
 rw[px.2.2.2.2.2 (by omega),py.2.2.2.2.2 (by omega),e]
 have e1:(if x.kind=20 then(19:Int)else x.kind)=19:=by split<;>omega
 have e2:(if y.kind=20 then(19:Int)else y.kind)=19:=by split<;>omega
 rw[e1,e2]
theorem xI{ks:List V}{r:List UInt8}(hks:∀x∈ks,gl x)(hM:iI ks)(hT:∀x∈aP ks,x.kind=19∨x.kind=20)(hEn:bw ks body)(hh:Hd 0xc1 0xd1 c hd ks.length body)(hX:aH w xb cs)(ho:Nat.blt off cs.length=true)(hne:rb<xb)(hR:Rd w rb (c::(hd++(body++r)))):
  ah TP 132 [.pointer (some ⟨xb,off,none⟩),.pointer (some ⟨rb,0,none⟩)] w fun u w'=>u= .nilIface∧(∃m ss,aH w' xb (cs.set off (.map (some m)))∧w.heap.size≤m∧cT w' m (ss.map xP)∧cC (fun b=>w.heap.size≤b) w' ks ss)∧Rd w' rb r∧am (fun k=>k≠rb∧k≠xb) w w':=by
 have:=hX.lt
 have hle:=hh.le
 obtain⟨hev,hkeys,hnd⟩:=hM
 refine aR Tryz.func132 ?_
 refine q ?_
 refine Hm rfl (fo hh hR) fun w1 hR e1=>?_
 refine q ?_
 refine Hq (s9 (by decide) rfl rfl)<|WL.l rfl (d8 Fo.h (fun o h=>by cases h;exact⟨_,_,rfl⟩)) ?_
 rintro v2 w2 ⟨rfl,hMo,e2⟩
 have:=hMo.lt
 have hx2:=e1.s
 refine q ?_
 replace hR:=hR.m e2
 replace hX:=(hX.m e1).m e2
 refine WC.loop2 (ι:=Nat) [(0,_),(1,_),(4,_),(5,_),(7,_)] (fun i=>[(8,.int .u32 ((2 * i:Nat):Int))]) (fun i wi=>(∃ss bi,cT wi w1.heap.size (ss.map xP)∧2 * i≤ks.length∧cC (fun b=>w2.heap.size≤b) wi (ks.take (2 * i)) ss∧bw (ks.drop (2 * i)) bi∧Rd wi rb (bi++r))∧am (fun k=>k<w2.heap.size∧k≠w1.heap.size∧k≠rb) w2 wi) (fun i=>ks.length-2 * i) 0 sb sb (⟨⟨[],body,hMo,Nat.zero_le _,by simp[cC],hEn,hR⟩,am.refl _⟩) ?_
 intro i wi1 hh;obtain⟨⟨ss,bi,hMo,hi2,hV,hB,hR⟩,hE⟩:=hh
 have hvl:=hV.length
 have:=hE.s
 rcases Nat.lt_or_ge (2 * i) ks.length with hi|hi
 ·have hi1:2 * i+1<ks.length:=by omega
  rw[List.drop_eq_getElem_cons hi,List.drop_eq_getElem_cons hi1]at hB
  cases hB with
  |cons hB1 hB2=>
  cases hB2 with
  |cons hB2 hB3=>
  rename_i b1 b2 b3
  rw[List.append_assoc,List.append_assoc]at hR
  have hw:IntKind.u32.wrap (((2 * i:Nat):Int)+2)=((2 * (i+1):Nat):Int):=by
   rw[mR (by omega) (by omega)];omega
  have htk:ks.take (2 * (i+1))=ks.take (2 * i)++[ks[2 * i],ks[2 * i+1]]:=by
   rw[show 2 * (i+1)=2 * i+1+1 by omega,List.take_add_one,List.take_add_one,List.getElem?_eq_getElem hi1,List.getElem?_eq_getElem hi,List.append_assoc];rfl
  have hdr:ks.drop (2 * (i+1))=ks.drop (2 * i+1+1):=by rw[show 2 * (i+1)=2 * i+1+1 by omega]
  have hkm:ks[2 * i]∈aP ks:=List.mem_of_getElem? (dD i ks hi1)
  have hkk:=hkeys _ hkm
  have hkT:=hT _ hkm
  have hdn:=hkk.2.2.2.2.1
  cases hB1 with
  |desc h _ _=>rw[hdn]at h;cases h
  |plain _ hP1=>
  rw[List.cons_append]at hR
  refine q ?_
  refine Hm rfl (eu hkT hP1 hR) fun w3 hR e3=>?_
  have:=e3.s
  have hZV:=cC.m hV e3 (by intro b h1 h2;dsimp only[Nb];omega)
  refine q ?_
  refine cl rfl (hks _ (List.getElem_mem hi1) _ _ _ _ hB2 hR) ?_
  rintro v4 w4 ⟨yv,rfl,hZW,hR,e4⟩
  refine q ?_
  replace hMo:=(hMo.m e3).m e4
  refine WL.l0 (kY Fo.h rfl rfl rfl hMo (iY.str Fb.h) (mm Fb.h (fun e ch=>by obtain⟨j,hj,rfl⟩:=gU ch;rw[List.length_map]at hj;obtain⟨x',hx',hr'⟩:=cC.keys hV _ (List.getElem_mem hj);rw[eK]at hx';have hx2:=hkeys _ (List.mem_of_mem_take hx');refine⟨⟨(ss[j].1).toArray⟩,by simp[xP,str],?_⟩;rw[hr'];intro e;exact wy hkT (hT _ (List.mem_of_mem_take hx')) hkk.2 hx2.2 (kr hnd (dD i ks hi1) hx') (by simpa using e.symm)))) ?_
  rintro v5 w5 ⟨hMo,e5⟩
  refine q ?_
  refine Hq (pD rfl rfl)<|q ?_
  replace hZV:=(hZV.m e4).m e5
  replace hZW:=hZW.m e5
  have hV2:=cC.snoc (x:=ks[2 * i]) (by rw[List.length_take,Nat.min_eq_left (Nat.le_of_lt hi)];omega) hZV (hZW.k (B:=fun b=>w2.heap.size≤b) (fun b h=>by omega))
  rw[← htk]at hV2
  rw[← hdr]at hB3
  have hMo2:=(show cT _ _ (_++[xP (ks[2 * i].text,yv)])from hMo)
  rw[show ss.map xP++[xP (ks[2 * i].text,yv)]=(ss++[(ks[2 * i].text,yv)]).map xP by simp]at hMo2
  replace hR:=hR.m e5
  exact⟨i+1,sb,sb,⟨⟨_,_,hMo2,by omega,hV2,hB3,hR⟩,((((hE.t e3).t e4).t e5))⟩,by omega⟩
 ·rw[List.drop_eq_nil_of_le hi]at hB
  cases hB
  rw[List.take_of_length_le hi]at hV
  refine q ?_
  replace hX:=hX.m hE
  refine WL.l0 (ce Fo.h rfl rfl rfl hX ho) ?_
  rintro _ w3 ⟨hX,e3,hz3⟩
  refine q ?_
  replace hR:=hR.m e3
  replace hMo:=hMo.m e3
  replace hV:=hV.m e3
  exact aw rfl ⟨rfl,⟨_,ss,hX,by omega,hMo,cC.k hV (fun b h=>by omega)⟩,by simpa using hR,ch⟩
end Go.Proofs.LL
