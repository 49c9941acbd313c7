/- Contracts of functions of impl, spec and laws. Conditions: those that each theorem states. -/
import Derived.Test.YtdgbmbjkbmpcbaaGreatDoorW20
set_option linter.all false
set_option maxRecDepth 20000
namespace Go.Proofs.LL
open Go Go.Proofs Go.RowKit
set_option maxHeartbeats 4000000
attribute [local irreducible] RunOp WL WC WDL WT WX
theorem zR20_1{A:Prop}(h:A:=by
 rintro v3 w3 ⟨yy,rfl,⟨p,cc,cells,rfl,hcc,hV,hat⟩,hR,e3⟩
 refine q ?_
 exact fin2 rfl rfl ⟨_,rfl,by rw[RepA];exact .inr (.inr (.inl ⟨rfl,p,cc,cells,rfl,hcc,hV.weaken (fun b h=>by have:=e1.size;have:=e2.size;omega),hat.imp id (fun⟨b,h1,h2,h3⟩=>⟨b,h1,by have:=e1.size;have:=e2.size;omega,h3⟩)⟩)),hR,ch⟩):A:=h
theorem zR20_2{A:Prop}(h:A:=by
 replace hR:=hR.mono e2
 refine cl rfl (readAnyMap_ok (hks (.inr rfl)) (hMO rfl) h1 hh hR) ?_
 rintro v3 w3 ⟨yy,rfl,⟨m,kvs,kvs0,hm,hMp,hV,hy⟩,hR,e3⟩
 refine q ?_
 exact fin2 rfl rfl ⟨_,rfl,by rw[RepA];exact .inr (.inr (.inr (.inl ⟨rfl,m,kvs,kvs0,by have:=e1.size;have:=e2.size;omega,hMp,hV.weaken (fun b h=>by have:=e1.size;have:=e2.size;omega),hy⟩))),hR,ch⟩):A:=h
theorem zR20_3{A:Prop}(h:A:=by
 replace hR:=hR.mono e2
 refine cl rfl (readUint_pc (x:=V.mk _ _ t ks o []) rfl (hN4 rfl) hP0 hR) ?_
 rintro v3 w3 ⟨rfl,hR,e3⟩
 refine q ?_
 exact fin2 rfl rfl ⟨_,rfl,RepA.scal rfl,hR,ch⟩):A:=h
theorem zR20_4{A:Prop}(h:A:=by
 replace hR:=hR.mono e2
 refine cl rfl (readUlong_pc (x:=V.mk _ _ t ks o []) rfl hNL hP0 hR) ?_
 rintro v3 w3 ⟨rfl,hR,e3⟩
 refine q ?_
 exact fin2 rfl rfl ⟨_,rfl,RepA.scal rfl,hR,ch⟩):A:=h
theorem zR20_5{A:Prop}(h:A:=by
 replace hR:=hR.mono e2
 refine cl rfl (readBool_pc (x:=V.mk _ _ t ks o []) rfl hP0 hR) ?_
 rintro v3 w3 ⟨rfl,hR,e3⟩
 refine q ?_
 exact fin2 rfl rfl ⟨_,rfl,RepA.scal rfl,hR,ch⟩):A:=h
theorem zR20_6{A:Prop}(h:A:=by
 replace hR:=hR.mono e2
 refine cl rfl (readAnyArray_ok (hAr rfl).1 (hAr rfl).2 h0 h1 hh hR) ?_
 rintro v3 w3 ⟨yy,rfl,hV,hR,e3⟩
 refine q ?_
 exact fin2 rfl rfl ⟨_,rfl,by rw[RepA];exact .inr (.inr (.inr (.inr ⟨rfl,hV.weaken (fun b h=>by have:=e1.size;have:=e2.size;omega)⟩))),hR,ch⟩):A:=h
theorem zR20_7{A:Prop}(h:A:=by
 replace hR:=hR.mono e2
 refine cl rfl (readBinary_pc rfl hP0 hR) ?_
 rintro v3 w3 ⟨v,rfl,hV,hR,e3⟩
 refine q ?_
 exact fin2 rfl rfl ⟨_,rfl,by rw[RepA];exact .inr (.inl ⟨rfl,_,rfl,hV.weaken (fun b _ h=>by have:=e1.size;have:=e2.size;omega)⟩),hR,ch⟩):A:=h
theorem zR20_8{A:Prop}(h:A:=by
 replace hR:=hR.mono e2
 refine cl rfl (readInt_pc (x:=V.mk _ _ t ks o []) rfl (hN8 rfl) hNL hP0 hR) ?_
 rintro v3 w3 ⟨rfl,hR,e3⟩
 refine q ?_
 exact fin2 rfl rfl ⟨_,rfl,RepA.scal rfl,hR,ch⟩):A:=h
theorem zR20_9{A:Prop}(h:A:=by
 replace hR:=hR.mono e2
 refine cl rfl (readLong_pc (x:=V.mk _ _ t ks o []) rfl hNL hP0 hR) ?_
 rintro v3 w3 ⟨rfl,hR,e3⟩
 refine q ?_
 exact fin2 rfl rfl ⟨_,rfl,RepA.scal rfl,hR,ch⟩):A:=h
theorem zR20_10{A:Prop}(h:A:=by
 replace hR:=hR.mono e2
 refine cl rfl (readString_pc (.inl rfl) hP0 hR) ?_
 rintro v3 w3 ⟨rfl,hR,e3⟩
 refine q ?_
 exact fin2 rfl rfl ⟨_,rfl,RepA.scal rfl,hR,ch⟩):A:=h
theorem zR20_11{A:Prop}(h:A:=by
 replace hR:=hR.mono e2
 refine cl rfl (readString_pc (.inr rfl) hP0 hR) ?_
 rintro v3 w3 ⟨rfl,hR,e3⟩
 refine q ?_
 exact fin2 rfl rfl ⟨_,rfl,RepA.scal rfl,hR,ch⟩):A:=h
theorem RepA.scal{A:Nat→Prop}{w:World}{k:Int}{n:Nat}{t:List UInt8}{ks:List V}{o:Int}{d:List V}{y:Value}(h:scal k n t=some y):RepA A w (.mk k n t ks o d) y:=by
 simp only[RepA,RepX];exact .inl h
theorem numC_cases{k:Int}{c:UInt8}{s:Nat}(h:numC k=some (c,s)):(k=2∧c=0x50∧s=1)∨(k=3∧c=0x60∧s=2)∨(k=4∧c=0x70∧s=4)∨(k=5∧c=0x80∧s=8)∨(k=6∧c=0x51∧s=1)∨(k=7∧c=0x61∧s=2)∨(k=8∧c=0x71∧s=4)∨(k=9∧c=0x81∧s=8)∨(k=10∧c=0x72∧s=4)∨(k=11∧c=0x82∧s=8)∨(k=16∧c=0x83∧s=8):=by
 unfold numC at h
 repeat' split at h
 all_goals first|(simp only[Option.some.injEq,Prod.mk.injEq]at h;obtain⟨rfl,rfl⟩:=h;subst_vars;simp;done)|cases h
theorem ReadAny_one{k:Int}{n:Nat}{t:List UInt8}{ks:List V}{o:Int}{d:List V}(hF:Fine (.mk k n t ks o d))(hks:k=21∨k=22→∀y∈ks,Reads y)(hMO:k=22→MapOK ks)(hAr:k=23→ks≠[]∧∀x∈ks,plainOK x∧(18≤x.kind→x.text≠[])):Reads (.mk k n t ks o d):=by
 intro bs r w rb hE hR
 have hr0:=hR.lt
 simp only[Fine]at hF
 obtain⟨⟨hN,htl,ht17,hdn,hq1,hq2⟩,hq3⟩:=hF
 clear hq1 hq2 hq3
 simp only[V.kind,V.num,V.text,V.desc]at hN htl ht17 hdn
 obtain⟨hN1,hN2,hN3,hN4,hN6,hN7,hN8,hN10,hNL⟩:=hN
 subst hdn
 cases hE with
 |desc h _ _=>cases h
 |plain _ hP=>
 rename_i c data
 rw[List.cons_append]at hR
 have hP0:=hP
 cases hP
 case null=>
  refine do2 Tryz.func135 ?_
  refine q ?_
  refine cl rfl (tryReadNull_yes hR) ?_
  rintro v1 w1 ⟨rfl,hR,e1⟩
  refine q ?_
  exact fin2 rfl rfl ⟨_,rfl,RepA.scal rfl,hR,ch⟩
 case tt=>
  refine do2 Tryz.func135 ?_
  refine q ?_
  refine cl rfl (tryReadNull_no hR (by decide)) ?_
  rintro v1 w1 ⟨rfl,e1⟩
  refine q ?_
  replace hR:=hR.mono e1
  refine cl rfl (peekType_ok hR) ?_
  rintro v2 w2 ⟨rfl,e2⟩
  refine gqo 6 rfl ?_
  refine gq 4 rfl ?_
  refine WL.q rfl (r_ifneNil Fb.h rfl) ?_
  refine WL.nil ?_
  refine WC.condF rfl ?_
  refine WC.skip ?_
  refine gq 29 rfl ?_
  exact zR20_5
 case ff=>
  refine do2 Tryz.func135 ?_
  refine q ?_
  refine cl rfl (tryReadNull_no hR (by decide)) ?_
  rintro v1 w1 ⟨rfl,e1⟩
  refine q ?_
  replace hR:=hR.mono e1
  refine cl rfl (peekType_ok hR) ?_
  rintro v2 w2 ⟨rfl,e2⟩
  refine gqo 6 rfl ?_
  refine gq 4 rfl ?_
  refine WL.q rfl (r_ifneNil Fb.h rfl) ?_
  refine WL.nil ?_
  refine WC.condF rfl ?_
  refine WC.skip ?_
  refine gq 32 rfl ?_
  exact zR20_5
 case bool h=>
  refine do2 Tryz.func135 ?_
  refine q ?_
  refine cl rfl (tryReadNull_no hR (by decide)) ?_
  rintro v1 w1 ⟨rfl,e1⟩
  refine q ?_
  replace hR:=hR.mono e1
  refine cl rfl (peekType_ok hR) ?_
  rintro v2 w2 ⟨rfl,e2⟩
  refine q ?_
  exact zR20_5
 case num s hc=>
  rcases numC_cases hc with⟨rfl,rfl,rfl⟩|⟨rfl,rfl,rfl⟩|⟨rfl,rfl,rfl⟩|⟨rfl,rfl,rfl⟩|⟨rfl,rfl,rfl⟩|⟨rfl,rfl,rfl⟩|⟨rfl,rfl,rfl⟩|⟨rfl,rfl,rfl⟩|⟨rfl,rfl,rfl⟩|⟨rfl,rfl,rfl⟩|⟨rfl,rfl,rfl⟩
  ·refine do2 Tryz.func135 ?_
   refine q ?_
   refine cl rfl (tryReadNull_no hR (by decide)) ?_
   rintro v1 w1 ⟨rfl,e1⟩
   refine q ?_
   replace hR:=hR.mono e1
   refine cl rfl (peekType_ok hR) ?_
   rintro v2 w2 ⟨rfl,e2⟩
   refine gqo 6 rfl ?_
   refine gq 4 rfl ?_
   refine WL.q rfl (r_ifneNil Fb.h rfl) ?_
   refine WL.nil ?_
   refine WC.condF rfl ?_
   refine WC.skip ?_
   refine gq 38 rfl ?_
   replace hR:=hR.mono e2
   refine cl rfl (readUbyte_pc (x:=V.mk _ _ t ks o []) rfl (hN2 rfl) hP0 hR) ?_
   rintro v3 w3 ⟨rfl,hR,e3⟩
   refine q ?_
   exact fin2 rfl rfl ⟨_,rfl,RepA.scal rfl,hR,ch⟩
  ·refine do2 Tryz.func135 ?_
   refine q ?_
   refine cl rfl (tryReadNull_no hR (by decide)) ?_
   rintro v1 w1 ⟨rfl,e1⟩
   refine q ?_
   replace hR:=hR.mono e1
   refine cl rfl (peekType_ok hR) ?_
   rintro v2 w2 ⟨rfl,e2⟩
   refine gqo 6 rfl ?_
   refine gq 4 rfl ?_
   refine WL.q rfl (r_ifneNil Fb.h rfl) ?_
   refine WL.nil ?_
   refine WC.condF rfl ?_
   refine WC.skip ?_
   refine gq 44 rfl ?_
   replace hR:=hR.mono e2
   refine cl rfl (readUshort_pc (x:=V.mk _ _ t ks o []) rfl (hN3 rfl) hP0 hR) ?_
   rintro v3 w3 ⟨rfl,hR,e3⟩
   refine q ?_
   exact fin2 rfl rfl ⟨_,rfl,RepA.scal rfl,hR,ch⟩
  ·refine do2 Tryz.func135 ?_
   refine q ?_
   refine cl rfl (tryReadNull_no hR (by decide)) ?_
   rintro v1 w1 ⟨rfl,e1⟩
   refine q ?_
   replace hR:=hR.mono e1
   refine cl rfl (peekType_ok hR) ?_
   rintro v2 w2 ⟨rfl,e2⟩
   refine gqo 6 rfl ?_
   refine gq 4 rfl ?_
   refine WL.q rfl (r_ifneNil Fb.h rfl) ?_
   refine WL.nil ?_
   refine WC.condF rfl ?_
   refine WC.skip ?_
   refine gq 53 rfl ?_
   exact zR20_3
  ·refine do2 Tryz.func135 ?_
   refine q ?_
   refine cl rfl (tryReadNull_no hR (by decide)) ?_
   rintro v1 w1 ⟨rfl,e1⟩
   refine q ?_
   replace hR:=hR.mono e1
   refine cl rfl (peekType_ok hR) ?_
   rintro v2 w2 ⟨rfl,e2⟩
   refine gqo 6 rfl ?_
   refine gq 4 rfl ?_
   refine WL.q rfl (r_ifneNil Fb.h rfl) ?_
   refine WL.nil ?_
   refine WC.condF rfl ?_
   refine WC.skip ?_
   refine gq 71 rfl ?_
   exact zR20_4
  ·refine do2 Tryz.func135 ?_
   refine q ?_
   refine cl rfl (tryReadNull_no hR (by decide)) ?_
   rintro v1 w1 ⟨rfl,e1⟩
   refine q ?_
   replace hR:=hR.mono e1
   refine cl rfl (peekType_ok hR) ?_
   rintro v2 w2 ⟨rfl,e2⟩
   refine gqo 6 rfl ?_
   refine gq 4 rfl ?_
   refine WL.q rfl (r_ifneNil Fb.h rfl) ?_
   refine WL.nil ?_
   refine WC.condF rfl ?_
   refine WC.skip ?_
   refine gq 86 rfl ?_
   replace hR:=hR.mono e2
   refine cl rfl (readSbyte_pc (x:=V.mk _ _ t ks o []) rfl (hN6 rfl) hP0 hR) ?_
   rintro v3 w3 ⟨rfl,hR,e3⟩
   refine q ?_
   exact fin2 rfl rfl ⟨_,rfl,RepA.scal rfl,hR,ch⟩
  ·refine do2 Tryz.func135 ?_
   refine q ?_
   refine cl rfl (tryReadNull_no hR (by decide)) ?_
   rintro v1 w1 ⟨rfl,e1⟩
   refine q ?_
   replace hR:=hR.mono e1
   refine cl rfl (peekType_ok hR) ?_
   rintro v2 w2 ⟨rfl,e2⟩
   refine gqo 6 rfl ?_
   refine gq 4 rfl ?_
   refine WL.q rfl (r_ifneNil Fb.h rfl) ?_
   refine WL.nil ?_
   refine WC.condF rfl ?_
   refine WC.skip ?_
   refine gq 92 rfl ?_
   replace hR:=hR.mono e2
   refine cl rfl (readShort_pc (x:=V.mk _ _ t ks o []) rfl (hN7 rfl) hP0 hR) ?_
   rintro v3 w3 ⟨rfl,hR,e3⟩
   refine q ?_
   exact fin2 rfl rfl ⟨_,rfl,RepA.scal rfl,hR,ch⟩
  ·refine do2 Tryz.func135 ?_
   refine q ?_
   refine cl rfl (tryReadNull_no hR (by decide)) ?_
   rintro v1 w1 ⟨rfl,e1⟩
   refine q ?_
   replace hR:=hR.mono e1
   refine cl rfl (peekType_ok hR) ?_
   rintro v2 w2 ⟨rfl,e2⟩
   refine gqo 6 rfl ?_
   refine gq 4 rfl ?_
   refine WL.q rfl (r_ifneNil Fb.h rfl) ?_
   refine WL.nil ?_
   refine WC.condF rfl ?_
   refine WC.skip ?_
   refine gq 101 rfl ?_
   exact zR20_8
  ·refine do2 Tryz.func135 ?_
   refine q ?_
   refine cl rfl (tryReadNull_no hR (by decide)) ?_
   rintro v1 w1 ⟨rfl,e1⟩
   refine q ?_
   replace hR:=hR.mono e1
   refine cl rfl (peekType_ok hR) ?_
   rintro v2 w2 ⟨rfl,e2⟩
   refine gqo 6 rfl ?_
   refine gq 4 rfl ?_
   refine WL.q rfl (r_ifneNil Fb.h rfl) ?_
   refine WL.nil ?_
   refine WC.condF rfl ?_
   refine WC.skip ?_
   refine gq 113 rfl ?_
   exact zR20_9
  ·refine do2 Tryz.func135 ?_
   refine q ?_
   refine cl rfl (tryReadNull_no hR (by decide)) ?_
   rintro v1 w1 ⟨rfl,e1⟩
   refine q ?_
   replace hR:=hR.mono e1
   refine cl rfl (peekType_ok hR) ?_
   rintro v2 w2 ⟨rfl,e2⟩
   refine gqo 6 rfl ?_
   refine gq 4 rfl ?_
   refine WL.q rfl (r_ifneNil Fb.h rfl) ?_
   refine WL.nil ?_
   refine WC.condF rfl ?_
   refine WC.skip ?_
   refine gq 122 rfl ?_
   replace hR:=hR.mono e2
   refine cl rfl (readFloat_pc (x:=V.mk _ _ t ks o []) rfl (hN10 rfl) hP0 hR) ?_
   rintro v3 w3 ⟨rfl,hR,e3⟩
   refine q ?_
   exact fin2 rfl rfl ⟨_,rfl,RepA.scal rfl,hR,ch⟩
  ·refine do2 Tryz.func135 ?_
   refine q ?_
   refine cl rfl (tryReadNull_no hR (by decide)) ?_
   rintro v1 w1 ⟨rfl,e1⟩
   refine q ?_
   replace hR:=hR.mono e1
   refine cl rfl (peekType_ok hR) ?_
   rintro v2 w2 ⟨rfl,e2⟩
   refine gqo 6 rfl ?_
   refine gq 4 rfl ?_
   refine WL.q rfl (r_ifneNil Fb.h rfl) ?_
   refine WL.nil ?_
   refine WC.condF rfl ?_
   refine WC.skip ?_
   refine gq 128 rfl ?_
   replace hR:=hR.mono e2
   refine cl rfl (readDouble_pc (x:=V.mk _ _ t ks o []) rfl hNL hP0 hR) ?_
   rintro v3 w3 ⟨rfl,hR,e3⟩
   refine q ?_
   exact fin2 rfl rfl ⟨_,rfl,RepA.scal rfl,hR,ch⟩
  ·refine do2 Tryz.func135 ?_
   refine q ?_
   refine cl rfl (tryReadNull_no hR (by decide)) ?_
   rintro v1 w1 ⟨rfl,e1⟩
   refine q ?_
   replace hR:=hR.mono e1
   refine cl rfl (peekType_ok hR) ?_
   rintro v2 w2 ⟨rfl,e2⟩
   refine gqo 6 rfl ?_
   refine gq 4 rfl ?_
   refine WL.q rfl (r_ifneNil Fb.h rfl) ?_
   refine WL.nil ?_
   refine WC.condF rfl ?_
   refine WC.skip ?_
   refine gq 170 rfl ?_
   replace hR:=hR.mono e2
   refine cl rfl (readTime_pc (x:=V.mk _ _ t ks o []) rfl hNL hP0 hR) ?_
   rintro v3 w3 ⟨rfl,hR,e3⟩
   refine q ?_
   exact fin2 rfl rfl ⟨_,rfl,RepA.scal rfl,hR,ch⟩
 case uint0=>
  refine do2 Tryz.func135 ?_
  refine q ?_
  refine cl rfl (tryReadNull_no hR (by decide)) ?_
  rintro v1 w1 ⟨rfl,e1⟩
  refine q ?_
  replace hR:=hR.mono e1
  refine cl rfl (peekType_ok hR) ?_
  rintro v2 w2 ⟨rfl,e2⟩
  refine gqo 6 rfl ?_
  refine gq 4 rfl ?_
  refine WL.q rfl (r_ifneNil Fb.h rfl) ?_
  refine WL.nil ?_
  refine WC.condF rfl ?_
  refine WC.skip ?_
  refine gq 62 rfl ?_
  exact zR20_3
 case uint1 h=>
  refine do2 Tryz.func135 ?_
  refine q ?_
  refine cl rfl (tryReadNull_no hR (by decide)) ?_
  rintro v1 w1 ⟨rfl,e1⟩
  refine q ?_
  replace hR:=hR.mono e1
  refine cl rfl (peekType_ok hR) ?_
  rintro v2 w2 ⟨rfl,e2⟩
  refine gqo 6 rfl ?_
  refine gq 4 rfl ?_
  refine WL.q rfl (r_ifneNil Fb.h rfl) ?_
  refine WL.nil ?_
  refine WC.condF rfl ?_
  refine WC.skip ?_
  refine gq 59 rfl ?_
  exact zR20_3
 case ulong0=>
  refine do2 Tryz.func135 ?_
  refine q ?_
  refine cl rfl (tryReadNull_no hR (by decide)) ?_
  rintro v1 w1 ⟨rfl,e1⟩
  refine q ?_
  replace hR:=hR.mono e1
  refine cl rfl (peekType_ok hR) ?_
  rintro v2 w2 ⟨rfl,e2⟩
  refine gqo 6 rfl ?_
  refine gq 4 rfl ?_
  refine WL.q rfl (r_ifneNil Fb.h rfl) ?_
  refine WL.nil ?_
  refine WC.condF rfl ?_
  refine WC.skip ?_
  refine gq 80 rfl ?_
  exact zR20_4
 case ulong1 h=>
  refine do2 Tryz.func135 ?_
  refine q ?_
  refine cl rfl (tryReadNull_no hR (by decide)) ?_
  rintro v1 w1 ⟨rfl,e1⟩
  refine q ?_
  replace hR:=hR.mono e1
  refine cl rfl (peekType_ok hR) ?_
  rintro v2 w2 ⟨rfl,e2⟩
  refine gqo 6 rfl ?_
  refine gq 4 rfl ?_
  refine WL.q rfl (r_ifneNil Fb.h rfl) ?_
  refine WL.nil ?_
  refine WC.condF rfl ?_
  refine WC.skip ?_
  refine gq 77 rfl ?_
  exact zR20_4
 case int1 h=>
  refine do2 Tryz.func135 ?_
  refine q ?_
  refine cl rfl (tryReadNull_no hR (by decide)) ?_
  rintro v1 w1 ⟨rfl,e1⟩
  refine q ?_
  replace hR:=hR.mono e1
  refine cl rfl (peekType_ok hR) ?_
  rintro v2 w2 ⟨rfl,e2⟩
  refine gqo 6 rfl ?_
  refine gq 4 rfl ?_
  refine WL.q rfl (r_ifneNil Fb.h rfl) ?_
  refine WL.nil ?_
  refine WC.condF rfl ?_
  refine WC.skip ?_
  refine gq 104 rfl ?_
  exact zR20_8
 case long1 h=>
  refine do2 Tryz.func135 ?_
  refine q ?_
  refine cl rfl (tryReadNull_no hR (by decide)) ?_
  rintro v1 w1 ⟨rfl,e1⟩
  refine q ?_
  replace hR:=hR.mono e1
  refine cl rfl (peekType_ok hR) ?_
  rintro v2 w2 ⟨rfl,e2⟩
  refine gqo 6 rfl ?_
  refine gq 4 rfl ?_
  refine WL.q rfl (r_ifneNil Fb.h rfl) ?_
  refine WL.nil ?_
  refine WC.condF rfl ?_
  refine WC.skip ?_
  refine gq 116 rfl ?_
  exact zR20_9
 case uuid=>
  refine do2 Tryz.func135 ?_
  refine q ?_
  refine cl rfl (tryReadNull_no hR (by decide)) ?_
  rintro v1 w1 ⟨rfl,e1⟩
  refine q ?_
  replace hR:=hR.mono e1
  refine cl rfl (peekType_ok hR) ?_
  rintro v2 w2 ⟨rfl,e2⟩
  refine gqo 6 rfl ?_
  refine gq 4 rfl ?_
  refine WL.q rfl (r_ifneNil Fb.h rfl) ?_
  refine WL.nil ?_
  refine WC.condF rfl ?_
  refine WC.skip ?_
  refine gq 176 rfl ?_
  replace hR:=hR.mono e2
  refine cl rfl (readUUID_pc (x:=V.mk _ _ t ks o []) rfl (ht17 rfl) hP0 hR) ?_
  rintro v3 w3 ⟨rfl,hR,e3⟩
  refine q ?_
  exact fin2 rfl rfl ⟨_,rfl,RepA.scal rfl,hR,ch⟩
 case bin1 h=>
  refine do2 Tryz.func135 ?_
  refine q ?_
  refine cl rfl (tryReadNull_no hR (by decide)) ?_
  rintro v1 w1 ⟨rfl,e1⟩
  refine q ?_
  replace hR:=hR.mono e1
  refine cl rfl (peekType_ok hR) ?_
  rintro v2 w2 ⟨rfl,e2⟩
  refine gqo 6 rfl ?_
  refine gq 4 rfl ?_
  refine WL.q rfl (r_ifneNil Fb.h rfl) ?_
  refine WL.nil ?_
  refine WC.condF rfl ?_
  refine WC.skip ?_
  refine gq 137 rfl ?_
  exact zR20_7
 case bin4 h=>
  refine do2 Tryz.func135 ?_
  refine q ?_
  refine cl rfl (tryReadNull_no hR (by decide)) ?_
  rintro v1 w1 ⟨rfl,e1⟩
  refine q ?_
  replace hR:=hR.mono e1
  refine cl rfl (peekType_ok hR) ?_
  rintro v2 w2 ⟨rfl,e2⟩
  refine gqo 6 rfl ?_
  refine gq 4 rfl ?_
  refine WL.q rfl (r_ifneNil Fb.h rfl) ?_
  refine WL.nil ?_
  refine WC.condF rfl ?_
  refine WC.skip ?_
  refine gq 140 rfl ?_
  exact zR20_7
 case str1 h=>
  refine do2 Tryz.func135 ?_
  refine q ?_
  refine cl rfl (tryReadNull_no hR (by decide)) ?_
  rintro v1 w1 ⟨rfl,e1⟩
  refine q ?_
  replace hR:=hR.mono e1
  refine cl rfl (peekType_ok hR) ?_
  rintro v2 w2 ⟨rfl,e2⟩
  refine gqo 6 rfl ?_
  refine gq 4 rfl ?_
  refine WL.q rfl (r_ifneNil Fb.h rfl) ?_
  refine WL.nil ?_
  refine WC.condF rfl ?_
  refine WC.skip ?_
  refine gq 149 rfl ?_
  exact zR20_10
 case str4 h=>
  refine do2 Tryz.func135 ?_
  refine q ?_
  refine cl rfl (tryReadNull_no hR (by decide)) ?_
  rintro v1 w1 ⟨rfl,e1⟩
  refine q ?_
  replace hR:=hR.mono e1
  refine cl rfl (peekType_ok hR) ?_
  rintro v2 w2 ⟨rfl,e2⟩
  refine gqo 6 rfl ?_
  refine gq 4 rfl ?_
  refine WL.q rfl (r_ifneNil Fb.h rfl) ?_
  refine WL.nil ?_
  refine WC.condF rfl ?_
  refine WC.skip ?_
  refine gq 152 rfl ?_
  exact zR20_10
 case sym1 h=>
  refine do2 Tryz.func135 ?_
  refine q ?_
  refine cl rfl (tryReadNull_no hR (by decide)) ?_
  rintro v1 w1 ⟨rfl,e1⟩
  refine q ?_
  replace hR:=hR.mono e1
  refine cl rfl (peekType_ok hR) ?_
  rintro v2 w2 ⟨rfl,e2⟩
  refine gqo 6 rfl ?_
  refine gq 4 rfl ?_
  refine WL.q rfl (r_ifneNil Fb.h rfl) ?_
  refine WL.nil ?_
  refine WC.condF rfl ?_
  refine WC.skip ?_
  refine gq 161 rfl ?_
  exact zR20_11
 case sym4 h=>
  refine do2 Tryz.func135 ?_
  refine q ?_
  refine cl rfl (tryReadNull_no hR (by decide)) ?_
  rintro v1 w1 ⟨rfl,e1⟩
  refine q ?_
  replace hR:=hR.mono e1
  refine cl rfl (peekType_ok hR) ?_
  rintro v2 w2 ⟨rfl,e2⟩
  refine gqo 6 rfl ?_
  refine gq 4 rfl ?_
  refine WL.q rfl (r_ifneNil Fb.h rfl) ?_
  refine WL.nil ?_
  refine WC.condF rfl ?_
  refine WC.skip ?_
  refine gq 164 rfl ?_
  exact zR20_11
 case list0=>
  refine do2 Tryz.func135 ?_
  refine q ?_
  refine cl rfl (tryReadNull_no hR (by decide)) ?_
  rintro v1 w1 ⟨rfl,e1⟩
  refine q ?_
  replace hR:=hR.mono e1
  refine cl rfl (peekType_ok hR) ?_
  rintro v2 w2 ⟨rfl,e2⟩
  refine gqo 6 rfl ?_
  refine gq 4 rfl ?_
  refine WL.q rfl (r_ifneNil Fb.h rfl) ?_
  refine WL.nil ?_
  refine WC.condF rfl ?_
  refine WC.skip ?_
  refine gq 197 rfl ?_
  replace hR:=hR.mono e2
  refine cl rfl (readAnyList_ok (ks:=[]) (hd:=[0x45]) (body:=[]) (by simp) .nil (.inl ⟨rfl,rfl,rfl⟩) hR) ?_
  exact zR20_1
 case list hd body h1 h2=>
  have hh:=h2
  rw[List.append_assoc]at hR
  rcases h2 with⟨s1,s2,rfl,_⟩|⟨_,_,_,_,_,_,_,_,rfl,_⟩
  ·refine do2 Tryz.func135 ?_
   refine q ?_
   refine cl rfl (tryReadNull_no hR (by decide)) ?_
   rintro v1 w1 ⟨rfl,e1⟩
   refine q ?_
   replace hR:=hR.mono e1
   refine cl rfl (peekType_ok hR) ?_
   rintro v2 w2 ⟨rfl,e2⟩
   refine gqo 6 rfl ?_
   refine gq 4 rfl ?_
   refine WL.q rfl (r_ifneNil Fb.h rfl) ?_
   refine WL.nil ?_
   refine WC.condF rfl ?_
   refine WC.skip ?_
   refine gq 203 rfl ?_
   replace hR:=hR.mono e2
   refine cl rfl (readAnyList_ok (hks (.inl rfl)) h1 hh.lst hR) ?_
   exact zR20_1
  ·refine do2 Tryz.func135 ?_
   refine q ?_
   refine cl rfl (tryReadNull_no hR (by decide)) ?_
   rintro v1 w1 ⟨rfl,e1⟩
   refine q ?_
   replace hR:=hR.mono e1
   refine cl rfl (peekType_ok hR) ?_
   rintro v2 w2 ⟨rfl,e2⟩
   refine gqo 6 rfl ?_
   refine gq 4 rfl ?_
   refine WL.q rfl (r_ifneNil Fb.h rfl) ?_
   refine WL.nil ?_
   refine WC.condF rfl ?_
   refine WC.skip ?_
   refine gq 206 rfl ?_
   replace hR:=hR.mono e2
   refine cl rfl (readAnyList_ok (hks (.inl rfl)) h1 hh.lst hR) ?_
   exact zR20_1
 case map hd body h1 h2=>
  have hh:=h2
  rw[List.append_assoc]at hR
  rcases h2 with⟨s1,s2,rfl,_⟩|⟨_,_,_,_,_,_,_,_,rfl,_⟩
  ·refine do2 Tryz.func135 ?_
   refine q ?_
   refine cl rfl (tryReadNull_no hR (by decide)) ?_
   rintro v1 w1 ⟨rfl,e1⟩
   refine q ?_
   replace hR:=hR.mono e1
   refine cl rfl (peekType_ok hR) ?_
   rintro v2 w2 ⟨rfl,e2⟩
   refine gqo 6 rfl ?_
   refine gq 4 rfl ?_
   refine WL.q rfl (r_ifneNil Fb.h rfl) ?_
   refine WL.nil ?_
   refine WC.condF rfl ?_
   refine WC.skip ?_
   refine gq 212 rfl ?_
   exact zR20_2
  ·refine do2 Tryz.func135 ?_
   refine q ?_
   refine cl rfl (tryReadNull_no hR (by decide)) ?_
   rintro v1 w1 ⟨rfl,e1⟩
   refine q ?_
   replace hR:=hR.mono e1
   refine cl rfl (peekType_ok hR) ?_
   rintro v2 w2 ⟨rfl,e2⟩
   refine gqo 6 rfl ?_
   refine gq 4 rfl ?_
   refine WL.q rfl (r_ifneNil Fb.h rfl) ?_
   refine WL.nil ?_
   refine WC.condF rfl ?_
   refine WC.skip ?_
   refine gq 218 rfl ?_
   exact zR20_2
 case arr h0 h1 h2=>
  have hh:=h2
  rw[List.append_assoc]at hR
  rcases h2 with⟨s1,s2,rfl,_⟩|⟨_,_,_,_,_,_,_,_,rfl,_⟩
  ·refine do2 Tryz.func135 ?_
   refine q ?_
   refine cl rfl (tryReadNull_no hR (by decide)) ?_
   rintro v1 w1 ⟨rfl,e1⟩
   refine q ?_
   replace hR:=hR.mono e1
   refine cl rfl (peekType_ok hR) ?_
   rintro v2 w2 ⟨rfl,e2⟩
   refine gqo 6 rfl ?_
   refine gq 4 rfl ?_
   refine WL.q rfl (r_ifneNil Fb.h rfl) ?_
   refine WL.nil ?_
   refine WC.condF rfl ?_
   refine WC.skip ?_
   refine gq 185 rfl ?_
   exact zR20_6
  ·refine do2 Tryz.func135 ?_
   refine q ?_
   refine cl rfl (tryReadNull_no hR (by decide)) ?_
   rintro v1 w1 ⟨rfl,e1⟩
   refine q ?_
   replace hR:=hR.mono e1
   refine cl rfl (peekType_ok hR) ?_
   rintro v2 w2 ⟨rfl,e2⟩
   refine gqo 6 rfl ?_
   refine gq 4 rfl ?_
   refine WL.q rfl (r_ifneNil Fb.h rfl) ?_
   refine WL.nil ?_
   refine WC.condF rfl ?_
   refine WC.skip ?_
   refine gq 188 rfl ?_
   exact zR20_6
theorem Fine.mapOK{n:Nat}{t:List UInt8}{ks:List V}{o:Int}{d:List V}(h:Fine (.mk 22 n t ks o d)):MapOK ks:=by
 rw[Fine]at h
 obtain⟨_,_,_,_,_,_,h,_⟩:=h
 obtain⟨h1,h2,h3,h4⟩:=h rfl
 refine⟨h2,fun x hx=>⟨h3 x hx,?_⟩,h4⟩
 have key:∀l:List V,FineL l→∀x∈keysOf l,plainOK x:=by
  intro l
  induction l using keysOf.induct with
  |case1 k v r ih=>
   intro hl x hx
   simp only[FineL]at hl
   simp only[keysOf,List.mem_cons]at hx
   rcases hx with rfl|hx
   ·obtain⟨k',n',t',ks',o',d'⟩:=x
    have:=hl.1
    simp only[Fine]at this
    exact this.1
   ·exact ih hl.2.2 x hx
  |case2 l h=>
   intro _ x hx
   match l,h with
   |[],_=>simp[keysOf]at hx
   |[a],_=>simp[keysOf]at hx
   |a::b::r,h=>exact absurd rfl (h a b r)
 exact key ks h1 x hx
mutual
theorem reads:∀x:V,Fine x→Reads x
 | .mk k n t ks o d,h=>ReadAny_one h (fun hk=>by
   rw[Fine]at h
   rcases hk with rfl|rfl
   ·exact readsL ks (h.2.2.2.2.2.1 rfl)
   ·exact readsL ks (h.2.2.2.2.2.2.1 rfl).1) (fun hk=>by subst hk;exact h.mapOK) (fun hk=>by
   rw[Fine]at h
   obtain⟨h1,kk,h2,h3⟩:=h.2.2.2.2.2.2.2 hk
   exact⟨h1,fun x hx=>⟨(h3 x hx).2.1,fun hk2=>(h3 x hx).2.2 (by rw[← (h3 x hx).1];exact hk2)⟩⟩)
theorem readsL:∀l:List V,FineL l→∀x∈l,Reads x
 |[],_,x,hx=>by cases hx
 |a::r,h,x,hx=>by
  simp only[FineL]at h
  rcases List.mem_cons.1 hx with e|hx
  ·exact e▸reads a h.1
  ·exact readsL r h.2 x hx
end
def RepS(A:Nat→Prop)(w:World):List V→List (List UInt8×Value)→Prop
 |[],l=>l=[]
 |[_],l=>l=[]
 |k::v::r,l=>∃b l',l=(k.text,b)::l'∧RepA A w v b∧RepS A w r l'
section
variable {A B:Nat→Prop} {w w':World}
theorem RepS.mono':∀ {ks:List V} {l:List (List UInt8×Value)},RepS A w ks l→Evo B w w'→(∀b,b<w.heap.size→A b→B b)→RepS A w' ks l
 |[],l,h,_,_=>by simpa only[RepS]using h
 |[_],l,h,_,_=>by simpa only[RepS]using h
 |k::v::r,l,h,e,hAB=>by
  simp only[RepS]at h⊢
  obtain⟨b,l',h1,h3,h4⟩:=h
  exact⟨b,l',h1,RepA.mono' h3 e hAB,RepS.mono' h4 e hAB⟩
theorem RepS.mono{x:List V}{y:List (List UInt8×Value)}(h:RepS A w x y)(e:Evo B w w')(hAB:∀b,b<w.heap.size→A b→B b:=by(intro b hb1 hb2;first|exact trivial|exact hb2|((try dsimp only[Nb]at hb2⊢);omega))):RepS A w' x y:=h.mono' e hAB
theorem RepS.weaken:∀ {ks:List V} {l:List (List UInt8×Value)},RepS A w ks l→(∀b,A b→B b)→RepS B w ks l
 |[],l,h,_=>by simpa only[RepS]using h
 |[_],l,h,_=>by simpa only[RepS]using h
 |k::v::r,l,h,hAB=>by
  simp only[RepS]at h⊢
  obtain⟨b,l',h1,h3,h4⟩:=h
  exact⟨b,l',h1,RepA.weaken h3 hAB,RepS.weaken h4 hAB⟩
theorem RepS.snoc:∀ {ks:List V} {l:List (List UInt8×Value)} {x y:V} {b:Value},ks.length%2=0→RepS A w ks l→RepA A w y b→RepS A w (ks++[x,y]) (l++[(x.text,b)])
 |[],l,x,y,b,_,h,h2=>by
  simp only[RepS]at h
  subst h
  simp only[List.nil_append,RepS]
  exact⟨b,[],rfl,h2,rfl⟩
 |[_],l,x,y,b,h0,_,_=>by simp at h0
 |k::v::r,l,x,y,b,h0,h,h2=>by
  simp only[RepS]at h
  obtain⟨d,l',rfl,h4,h5⟩:=h
  simp only[List.cons_append,RepS]
  exact⟨d,l'++[(x.text,b)],rfl,h4,RepS.snoc (by simp at h0;omega) h5 h2⟩
theorem RepS.length:∀ {ks:List V} {l:List (List UInt8×Value)},RepS A w ks l→l.length=ks.length / 2
 |[],l,h=>by simp only[RepS]at h;simp[h]
 |[_],l,h=>by simp only[RepS]at h;simp[h]
 |k::v::r,l,h=>by
  simp only[RepS]at h
  obtain⟨b,l',rfl,_,h4⟩:=h
  simp[RepS.length h4];omega
theorem RepS.keys:∀ {ks:List V} {l:List (List UInt8×Value)},RepS A w ks l→∀p∈l,∃x∈keysOf ks,p.1=x.text
 |[],l,h,p,hp=>by simp only[RepS]at h;subst h;cases hp
 |[_],l,h,p,hp=>by simp only[RepS]at h;subst h;cases hp
 |k::v::r,l,h,p,hp=>by
  simp only[RepS]at h
  obtain⟨b,l',rfl,h2,h3⟩:=h
  rcases List.mem_cons.1 hp with rfl|hp
  ·exact⟨k,by simp[keysOf],rfl⟩
  ·obtain⟨x,hx,h4⟩:=RepS.keys h3 p hp
   exact⟨x,by simp[keysOf,hx],h4⟩
end
def sKV(p:List UInt8×Value):Value×Value:=(str p.1,p.2)
theorem text_ne{x y:V}(hx:x.kind=19∨x.kind=20)(hy:y.kind=19∨y.kind=20)(px:plainOK x)(py:plainOK y)(h:asKey x≠asKey y):x.text≠y.text:=by
 intro e
 apply h
 unfold asKey
 rw[px.2.2.2.2.2 (by omega),py.2.2.2.2.2 (by omega),e]
 have e1:(if x.kind=20 then(19:Int)else x.kind)=19:=by split<;>omega
 have e2:(if y.kind=20 then(19:Int)else y.kind)=19:=by split<;>omega
 rw[e1,e2]
theorem mapStr_ok{rb xb off:Nat}{ks:List V}{c:UInt8}{hd body r:List UInt8}{w:World}{cs:List Value}(hks:∀x∈ks,Reads x)(hM:MapOK ks)(hT:∀x∈keysOf ks,x.kind=19∨x.kind=20)(hEn:EncL ks body)(hh:Hd 0xc1 0xd1 c hd ks.length body)(hX:Blk w xb cs)(ho:Nat.blt off cs.length=true)(hne:rb<xb)(hR:Rd w rb (c::(hd++(body++r)))):
  Does TP 132 [.pointer (some ⟨xb,off,none⟩),.pointer (some ⟨rb,0,none⟩)] w fun u w'=>u= .nilIface∧(∃m ss,Blk w' xb (cs.set off (.map (some m)))∧w.heap.size≤m∧MapO w' m (ss.map sKV)∧RepS (fun b=>w.heap.size≤b) w' ks ss)∧Rd w' rb r∧Evo (fun k=>k≠rb∧k≠xb) w w':=by
 have hr0:=hX.lt
 have hle:=hh.le
 obtain⟨hev,hkeys,hnd⟩:=hM
 refine do1 Tryz.func132 ?_
 refine q ?_
 refine cl rfl (readMapHeader_ok hh hR) ?_
 rintro v1 w1 ⟨rfl,hR,e1⟩
 refine q ?_
 refine WL.q rfl (r_quo (by decide) rfl rfl) ?_
 refine WL.l rfl (l_mkMap Fo.h (fun o h=>by cases h;exact⟨_,_,rfl⟩)) ?_
 rintro v2 w2 ⟨rfl,hMo,e2⟩
 have hx1:=hMo.lt
 have hx2:=e1.size
 refine q ?_
 replace hR:=hR.mono e2
 replace hX:=(hX.mono e1).mono e2
 refine WC.loop2 (ι:=Nat) [(0,_),(1,_),(4,_),(5,_),(7,_)] (fun i=>[(8,.int .u32 ((2 * i:Nat):Int))]) (fun i wi=>(∃ss bi,MapO wi w1.heap.size (ss.map sKV)∧2 * i≤ks.length∧RepS (fun b=>w2.heap.size≤b) wi (ks.take (2 * i)) ss∧EncL (ks.drop (2 * i)) bi∧Rd wi rb (bi++r))∧Evo (fun k=>k<w2.heap.size∧k≠w1.heap.size∧k≠rb) w2 wi) (fun i=>ks.length-2 * i) 0 sb sb (⟨⟨[],body,hMo,Nat.zero_le _,by simp[RepS],hEn,hR⟩,Evo.refl _⟩) ?_
 intro i wi1 hh;obtain⟨⟨ss,bi,hMo,hi2,hV,hB,hR⟩,hE⟩:=hh
 have hvl:=hV.length
 have hwi:=hE.size
 rcases Nat.lt_or_ge (2 * i) ks.length with hi|hi
 ·have hi1:2 * i+1<ks.length:=by omega
  rw[List.drop_eq_getElem_cons hi,List.drop_eq_getElem_cons hi1]at hB
  cases hB with
  |cons hB1 hB2=>
  cases hB2 with
  |cons hB2 hB3=>
  rename_i b1 b2 b3
  rw[List.append_assoc,List.append_assoc]at hR
  have hw:IntKind.u32.wrap (((2 * i:Nat):Int)+2)=((2 * (i+1):Nat):Int):=by
   rw[wu32 (by omega) (by omega)];omega
  have htk:ks.take (2 * (i+1))=ks.take (2 * i)++[ks[2 * i],ks[2 * i+1]]:=by
   rw[show 2 * (i+1)=2 * i+1+1 by omega,List.take_add_one,List.take_add_one,List.getElem?_eq_getElem hi1,List.getElem?_eq_getElem hi,List.append_assoc];rfl
  have hdr:ks.drop (2 * (i+1))=ks.drop (2 * i+1+1):=by rw[show 2 * (i+1)=2 * i+1+1 by omega]
  have hkm:ks[2 * i]∈keysOf ks:=List.mem_of_getElem? (keysOf_get i ks hi1)
  have hkk:=hkeys _ hkm
  have hkT:=hT _ hkm
  have hdn:=hkk.2.2.2.2.1
  cases hB1 with
  |desc h _ _=>rw[hdn]at h;cases h
  |plain _ hP1=>
  rw[List.cons_append]at hR
  refine q ?_
  refine cl rfl (readString_pc hkT hP1 hR) ?_
  rintro v3 w3 ⟨rfl,hR,e3⟩
  have hq1:=e3.size
  have hZV:=RepS.mono hV e3 (by intro b h1 h2;dsimp only[Nb];omega)
  refine q ?_
  refine cl rfl (hks _ (List.getElem_mem hi1) _ _ _ _ hB2 hR) ?_
  rintro v4 w4 ⟨yv,rfl,hZW,hR,e4⟩
  refine q ?_
  replace hMo:=(hMo.mono e3).mono e4
  refine WL.l0 (l_mapNew Fo.h rfl rfl rfl hMo (KeyOK.str Fb.h) (findKey_str Fb.h (fun e ch=>by obtain⟨j,hj,rfl⟩:=mkEs_mem ch;rw[List.length_map]at hj;obtain⟨x',hx',hr'⟩:=RepS.keys hV _ (List.getElem_mem hj);rw[keysOf_take]at hx';have hx2:=hkeys _ (List.mem_of_mem_take hx');refine⟨⟨(ss[j].1).toArray⟩,by simp[sKV,str],?_⟩;rw[hr'];intro e;exact text_ne hkT (hT _ (List.mem_of_mem_take hx')) hkk.2 hx2.2 (nodup_take hnd (keysOf_get i ks hi1) hx') (by simpa using e.symm)))) ?_
  rintro v5 w5 ⟨hMo,e5⟩
  refine q ?_
  refine WL.q rfl (r_add rfl rfl) ?_
  refine q ?_
  replace hZV:=(hZV.mono e4).mono e5
  replace hZW:=hZW.mono e5
  have hV2:=RepS.snoc (x:=ks[2 * i]) (by rw[List.length_take,Nat.min_eq_left (Nat.le_of_lt hi)];omega) hZV (hZW.weaken (B:=fun b=>w2.heap.size≤b) (fun b h=>by omega))
  rw[← htk]at hV2
  rw[← hdr]at hB3
  have hMo2:=(show MapO _ _ (_++[sKV (ks[2 * i].text,yv)])from hMo)
  rw[show ss.map sKV++[sKV (ks[2 * i].text,yv)]=(ss++[(ks[2 * i].text,yv)]).map sKV by simp]at hMo2
  replace hR:=hR.mono e5
  exact⟨i+1,sb,sb,⟨⟨_,_,hMo2,by omega,hV2,hB3,hR⟩,((((hE.then e3).then e4).then e5))⟩,by omega⟩
 ·rw[List.drop_eq_nil_of_le hi]at hB
  cases hB
  rw[List.take_of_length_le hi]at hV
  refine q ?_
  replace hX:=hX.mono hE
  refine WL.l0 (l_store Fo.h rfl rfl rfl hX ho) ?_
  rintro _ w3 ⟨hX,e3,hz3⟩
  refine q ?_
  replace hR:=hR.mono e3
  replace hMo:=hMo.mono e3
  replace hV:=hV.mono e3
  exact fin1 rfl ⟨rfl,⟨_,ss,hX,by omega,hMo,RepS.weaken hV (fun b h=>by omega)⟩,by simpa using hR,ch⟩
end Go.Proofs.LL
