/- Own laws of frames, operations and loops, and contracts of functions of the program. Conditions: those that each theorem states. -/
import Derived.Test.YtdgbmbjkbmpcbaaGreatDoorW20
set_option linter.all false
set_option maxRecDepth 20000
namespace Go.Proofs.LL
open Go Go.Proofs Go.RowKit
set_option maxHeartbeats 4000000
attribute [local irreducible] RunOp WL WC WDL WT WX
theorem jx{A:Prop}(h:A:=by
 rintro v3 w3 ⟨yy,rfl,⟨p,cc,cells,rfl,hcc,hV,hat⟩,hR,e3⟩
 refine q ?_
 exact fin2 rfl rfl ⟨_,rfl,by rw[RepA];exact .inr (.inr (.inl ⟨rfl,p,cc,cells,rfl,hcc,hV.weaken (fun b h=>by have:=e1.size;have:=e2.size;omega),hat.imp id (fun⟨b,h1,h2,h3⟩=>⟨b,h1,by have:=e1.size;have:=e2.size;omega,h3⟩)⟩)),hR,ch⟩):A:=h
theorem mO{A:Prop}(h:A:=by
 replace hR:=hR.mono e2
 refine cl rfl (readAnyMap_ok (hks (.inr rfl)) (hMO rfl) h1 hh hR) ?_
 rintro v3 w3 ⟨yy,rfl,⟨m,kvs,kvs0,hm,hMp,hV,hy⟩,hR,e3⟩
 refine q ?_
 exact fin2 rfl rfl ⟨_,rfl,by rw[RepA];exact .inr (.inr (.inr (.inl ⟨rfl,m,kvs,kvs0,by have:=e1.size;have:=e2.size;omega,hMp,hV.weaken (fun b h=>by have:=e1.size;have:=e2.size;omega),hy⟩))),hR,ch⟩):A:=h
theorem ju{A:Prop}(h:A:=by
 replace hR:=hR.mono e2
 refine cl rfl (readUint_pc (x:=V.mk _ _ t ks o []) rfl (hN4 rfl) hP0 hR) ?_
 rintro v3 w3 ⟨rfl,hR,e3⟩
 refine q ?_
 exact fin2 rfl rfl ⟨_,rfl,RepA.scal rfl,hR,ch⟩):A:=h
theorem jK{A:Prop}(h:A:=by
 replace hR:=hR.mono e2
 refine cl rfl (readUlong_pc (x:=V.mk _ _ t ks o []) rfl hNL hP0 hR) ?_
 rintro v3 w3 ⟨rfl,hR,e3⟩
 refine q ?_
 exact fin2 rfl rfl ⟨_,rfl,RepA.scal rfl,hR,ch⟩):A:=h
theorem iU{A:Prop}(h:A:=by
 replace hR:=hR.mono e2
 refine cl rfl (readBool_pc (x:=V.mk _ _ t ks o []) rfl hP0 hR) ?_
 rintro v3 w3 ⟨rfl,hR,e3⟩
 refine q ?_
 exact fin2 rfl rfl ⟨_,rfl,RepA.scal rfl,hR,ch⟩):A:=h
theorem lA{A:Prop}(h:A:=by
 replace hR:=hR.mono e2
 refine cl rfl (readAnyArray_ok (hAr rfl).1 (hAr rfl).2 h0 h1 hh hR) ?_
 rintro v3 w3 ⟨yy,rfl,hV,hR,e3⟩
 refine q ?_
 exact fin2 rfl rfl ⟨_,rfl,by rw[RepA];exact .inr (.inr (.inr (.inr ⟨rfl,hV.weaken (fun b h=>by have:=e1.size;have:=e2.size;omega)⟩))),hR,ch⟩):A:=h
theorem k8{A:Prop}(h:A:=by
 replace hR:=hR.mono e2
 refine cl rfl (readBinary_pc rfl hP0 hR) ?_
 rintro v3 w3 ⟨v,rfl,hV,hR,e3⟩
 refine q ?_
 exact fin2 rfl rfl ⟨_,rfl,by rw[RepA];exact .inr (.inl ⟨rfl,_,rfl,hV.weaken (fun b _ h=>by have:=e1.size;have:=e2.size;omega)⟩),hR,ch⟩):A:=h
theorem lR{A:Prop}(h:A:=by
 replace hR:=hR.mono e2
 refine cl rfl (readInt_pc (x:=V.mk _ _ t ks o []) rfl (hN8 rfl) hNL hP0 hR) ?_
 rintro v3 w3 ⟨rfl,hR,e3⟩
 refine q ?_
 exact fin2 rfl rfl ⟨_,rfl,RepA.scal rfl,hR,ch⟩):A:=h
theorem mt{A:Prop}(h:A:=by
 replace hR:=hR.mono e2
 refine cl rfl (readLong_pc (x:=V.mk _ _ t ks o []) rfl hNL hP0 hR) ?_
 rintro v3 w3 ⟨rfl,hR,e3⟩
 refine q ?_
 exact fin2 rfl rfl ⟨_,rfl,RepA.scal rfl,hR,ch⟩):A:=h
theorem kf{A:Prop}(h:A:=by
 replace hR:=hR.mono e2
 refine cl rfl (readString_pc (.inl rfl) hP0 hR) ?_
 rintro v3 w3 ⟨rfl,hR,e3⟩
 refine q ?_
 exact fin2 rfl rfl ⟨_,rfl,RepA.scal rfl,hR,ch⟩):A:=h
theorem j0{A:Prop}(h:A:=by
 replace hR:=hR.mono e2
 refine cl rfl (readString_pc (.inr rfl) hP0 hR) ?_
 rintro v3 w3 ⟨rfl,hR,e3⟩
 refine q ?_
 exact fin2 rfl rfl ⟨_,rfl,RepA.scal rfl,hR,ch⟩):A:=h
theorem RepA.scal{A:Nat→Prop}{w:World}{k:Int}{n:Nat}{t:List UInt8}{ks:List V}{o:Int}{d:List V}{y:Value}(h:scal k n t=some y):RepA A w (.mk k n t ks o d) y:=by
 simp only[RepA,RepX];exact .inl h
theorem cn{k:Int}{c:UInt8}{s:Nat}(h:numC k=some (c,s)):(k=2∧c=0x50∧s=1)∨(k=3∧c=0x60∧s=2)∨(k=4∧c=0x70∧s=4)∨(k=5∧c=0x80∧s=8)∨(k=6∧c=0x51∧s=1)∨(k=7∧c=0x61∧s=2)∨(k=8∧c=0x71∧s=4)∨(k=9∧c=0x81∧s=8)∨(k=10∧c=0x72∧s=4)∨(k=11∧c=0x82∧s=8)∨(k=16∧c=0x83∧s=8):=by
 unfold numC at h
 repeat' split at h
 all_goals first|(simp only[Option.some.injEq,Prod.mk.injEq]at h;obtain⟨rfl,rfl⟩:=h;subst_vars;simp;done)|cases h
theorem gY{k:Int}{n:Nat}{t:List UInt8}{ks:List V}{o:Int}{d:List V}(hF:Fine (.mk k n t ks o d))(hks:k=21∨k=22→∀y∈ks,Reads y)(hMO:k=22→MapOK ks)(hAr:k=23→ks≠[]∧∀x∈ks,plainOK x∧(18≤x.kind→x.text≠[])):Reads (.mk k n t ks o d):=by
 intro bs r w rb hE hR
 have hr0:=hR.lt
 simp only[Fine]at hF
 obtain⟨⟨hN,htl,ht17,hdn,hq1,hq2⟩,hq3⟩:=hF
 clear hq1 hq2 hq3
 simp only[V.kind,V.num,V.text,V.desc]at hN htl ht17 hdn
 obtain⟨hN1,hN2,hN3,hN4,hN6,hN7,hN8,hN10,hNL⟩:=hN
 subst hdn
 cases hE with
 |desc h _ _=>cases h
 |plain _ hP=>
 rename_i c data
 rw[List.cons_append]at hR
 have hP0:=hP
 cases hP
 case null=>
  refine do2 Tryz.func135 ?_
  refine q ?_
  refine cl rfl (tryReadNull_yes hR) ?_
  rintro v1 w1 ⟨rfl,hR,e1⟩
  refine q ?_
  exact fin2 rfl rfl ⟨_,rfl,RepA.scal rfl,hR,ch⟩
 case tt=>
  refine do2 Tryz.func135 ?_
  refine q ?_
  refine cl rfl (tryReadNull_no hR (by decide)) ?_
  rintro v1 w1 ⟨rfl,e1⟩
  refine q ?_
  replace hR:=hR.mono e1
  refine cl rfl (peekType_ok hR) ?_
  rintro v2 w2 ⟨rfl,e2⟩
  refine gqo 6 rfl ?_
  refine gq 4 rfl ?_
  refine WL.q rfl (r_ifneNil Fb.h rfl) ?_
  refine WL.nil ?_
  refine WC.condF rfl ?_
  refine WC.skip ?_
  refine gq 29 rfl ?_
  exact iU
 case ff=>
  refine do2 Tryz.func135 ?_
  refine q ?_
  refine cl rfl (tryReadNull_no hR (by decide)) ?_
  rintro v1 w1 ⟨rfl,e1⟩
  refine q ?_
  replace hR:=hR.mono e1
  refine cl rfl (peekType_ok hR) ?_
  rintro v2 w2 ⟨rfl,e2⟩
  refine gqo 6 rfl ?_
  refine gq 4 rfl ?_
  refine WL.q rfl (r_ifneNil Fb.h rfl) ?_
  refine WL.nil ?_
  refine WC.condF rfl ?_
  refine WC.skip ?_
  refine gq 32 rfl ?_
  exact iU
 case bool h=>
  refine do2 Tryz.func135 ?_
  refine q ?_
  refine cl rfl (tryReadNull_no hR (by decide)) ?_
  rintro v1 w1 ⟨rfl,e1⟩
  refine q ?_
  replace hR:=hR.mono e1
  refine cl rfl (peekType_ok hR) ?_
  rintro v2 w2 ⟨rfl,e2⟩
  refine q ?_
  exact iU
 case num s hc=>
  rcases cn hc with⟨rfl,rfl,rfl⟩|⟨rfl,rfl,rfl⟩|⟨rfl,rfl,rfl⟩|⟨rfl,rfl,rfl⟩|⟨rfl,rfl,rfl⟩|⟨rfl,rfl,rfl⟩|⟨rfl,rfl,rfl⟩|⟨rfl,rfl,rfl⟩|⟨rfl,rfl,rfl⟩|⟨rfl,rfl,rfl⟩|⟨rfl,rfl,rfl⟩
  ·refine do2 Tryz.func135 ?_
   refine q ?_
   refine cl rfl (tryReadNull_no hR (by decide)) ?_
   rintro v1 w1 ⟨rfl,e1⟩
   refine q ?_
   replace hR:=hR.mono e1
   refine cl rfl (peekType_ok hR) ?_
   rintro v2 w2 ⟨rfl,e2⟩
   refine gqo 6 rfl ?_
   refine gq 4 rfl ?_
   refine WL.q rfl (r_ifneNil Fb.h rfl) ?_
   refine WL.nil ?_
   refine WC.condF rfl ?_
   refine WC.skip ?_
   refine gq 38 rfl ?_
   replace hR:=hR.mono e2
   refine cl rfl (readUbyte_pc (x:=V.mk _ _ t ks o []) rfl (hN2 rfl) hP0 hR) ?_
   rintro v3 w3 ⟨rfl,hR,e3⟩
   refine q ?_
   exact fin2 rfl rfl ⟨_,rfl,RepA.scal rfl,hR,ch⟩
  ·refine do2 Tryz.func135 ?_
   refine q ?_
   refine cl rfl (tryReadNull_no hR (by decide)) ?_
   rintro v1 w1 ⟨rfl,e1⟩
   refine q ?_
   replace hR:=hR.mono e1
   refine cl rfl (peekType_ok hR) ?_
   rintro v2 w2 ⟨rfl,e2⟩
   refine gqo 6 rfl ?_
   refine gq 4 rfl ?_
   refine WL.q rfl (r_ifneNil Fb.h rfl) ?_
   refine WL.nil ?_
   refine WC.condF rfl ?_
   refine WC.skip ?_
   refine gq 44 rfl ?_
   replace hR:=hR.mono e2
   refine cl rfl (readUshort_pc (x:=V.mk _ _ t ks o []) rfl (hN3 rfl) hP0 hR) ?_
   rintro v3 w3 ⟨rfl,hR,e3⟩
   refine q ?_
   exact fin2 rfl rfl ⟨_,rfl,RepA.scal rfl,hR,ch⟩
  ·refine do2 Tryz.func135 ?_
   refine q ?_
   refine cl rfl (tryReadNull_no hR (by decide)) ?_
   rintro v1 w1 ⟨rfl,e1⟩
   refine q ?_
   replace hR:=hR.mono e1
   refine cl rfl (peekType_ok hR) ?_
   rintro v2 w2 ⟨rfl,e2⟩
   refine gqo 6 rfl ?_
   refine gq 4 rfl ?_
   refine WL.q rfl (r_ifneNil Fb.h rfl) ?_
   refine WL.nil ?_
   refine WC.condF rfl ?_
   refine WC.skip ?_
   refine gq 53 rfl ?_
   exact ju
  ·refine do2 Tryz.func135 ?_
   refine q ?_
   refine cl rfl (tryReadNull_no hR (by decide)) ?_
   rintro v1 w1 ⟨rfl,e1⟩
   refine q ?_
   replace hR:=hR.mono e1
   refine cl rfl (peekType_ok hR) ?_
   rintro v2 w2 ⟨rfl,e2⟩
   refine gqo 6 rfl ?_
   refine gq 4 rfl ?_
   refine WL.q rfl (r_ifneNil Fb.h rfl) ?_
   refine WL.nil ?_
   refine WC.condF rfl ?_
   refine WC.skip ?_
   refine gq 71 rfl ?_
   exact jK
  ·refine do2 Tryz.func135 ?_
   refine q ?_
   refine cl rfl (tryReadNull_no hR (by decide)) ?_
   rintro v1 w1 ⟨rfl,e1⟩
   refine q ?_
   replace hR:=hR.mono e1
   refine cl rfl (peekType_ok hR) ?_
   rintro v2 w2 ⟨rfl,e2⟩
   refine gqo 6 rfl ?_
   refine gq 4 rfl ?_
   refine WL.q rfl (r_ifneNil Fb.h rfl) ?_
   refine WL.nil ?_
   refine WC.condF rfl ?_
   refine WC.skip ?_
   refine gq 86 rfl ?_
   replace hR:=hR.mono e2
   refine cl rfl (readSbyte_pc (x:=V.mk _ _ t ks o []) rfl (hN6 rfl) hP0 hR) ?_
   rintro v3 w3 ⟨rfl,hR,e3⟩
   refine q ?_
   exact fin2 rfl rfl ⟨_,rfl,RepA.scal rfl,hR,ch⟩
  ·refine do2 Tryz.func135 ?_
   refine q ?_
   refine cl rfl (tryReadNull_no hR (by decide)) ?_
   rintro v1 w1 ⟨rfl,e1⟩
   refine q ?_
   replace hR:=hR.mono e1
   refine cl rfl (peekType_ok hR) ?_
   rintro v2 w2 ⟨rfl,e2⟩
   refine gqo 6 rfl ?_
   refine gq 4 rfl ?_
   refine WL.q rfl (r_ifneNil Fb.h rfl) ?_
   refine WL.nil ?_
   refine WC.condF rfl ?_
   refine WC.skip ?_
   refine gq 92 rfl ?_
   replace hR:=hR.mono e2
   refine cl rfl (readShort_pc (x:=V.mk _ _ t ks o []) rfl (hN7 rfl) hP0 hR) ?_
   rintro v3 w3 ⟨rfl,hR,e3⟩
   refine q ?_
   exact fin2 rfl rfl ⟨_,rfl,RepA.scal rfl,hR,ch⟩
  ·refine do2 Tryz.func135 ?_
   refine q ?_
   refine cl rfl (tryReadNull_no hR (by decide)) ?_
   rintro v1 w1 ⟨rfl,e1⟩
   refine q ?_
   replace hR:=hR.mono e1
   refine cl rfl (peekType_ok hR) ?_
   rintro v2 w2 ⟨rfl,e2⟩
   refine gqo 6 rfl ?_
   refine gq 4 rfl ?_
   refine WL.q rfl (r_ifneNil Fb.h rfl) ?_
   refine WL.nil ?_
   refine WC.condF rfl ?_
   refine WC.skip ?_
   refine gq 101 rfl ?_
   exact lR
  ·refine do2 Tryz.func135 ?_
   refine q ?_
   refine cl rfl (tryReadNull_no hR (by decide)) ?_
   rintro v1 w1 ⟨rfl,e1⟩
   refine q ?_
   replace hR:=hR.mono e1
   refine cl rfl (peekType_ok hR) ?_
   rintro v2 w2 ⟨rfl,e2⟩
   refine gqo 6 rfl ?_
   refine gq 4 rfl ?_
   refine WL.q rfl (r_ifneNil Fb.h rfl) ?_
   refine WL.nil ?_
   refine WC.condF rfl ?_
   refine WC.skip ?_
   refine gq 113 rfl ?_
   exact mt
  ·refine do2 Tryz.func135 ?_
   refine q ?_
   refine cl rfl (tryReadNull_no hR (by decide)) ?_
   rintro v1 w1 ⟨rfl,e1⟩
   refine q ?_
   replace hR:=hR.mono e1
   refine cl rfl (peekType_ok hR) ?_
   rintro v2 w2 ⟨rfl,e2⟩
   refine gqo 6 rfl ?_
   refine gq 4 rfl ?_
   refine WL.q rfl (r_ifneNil Fb.h rfl) ?_
   refine WL.nil ?_
   refine WC.condF rfl ?_
   refine WC.skip ?_
   refine gq 122 rfl ?_
   replace hR:=hR.mono e2
   refine cl rfl (readFloat_pc (x:=V.mk _ _ t ks o []) rfl (hN10 rfl) hP0 hR) ?_
   rintro v3 w3 ⟨rfl,hR,e3⟩
   refine q ?_
   exact fin2 rfl rfl ⟨_,rfl,RepA.scal rfl,hR,ch⟩
  ·refine do2 Tryz.func135 ?_
   refine q ?_
   refine cl rfl (tryReadNull_no hR (by decide)) ?_
   rintro v1 w1 ⟨rfl,e1⟩
   refine q ?_
   replace hR:=hR.mono e1
   refine cl rfl (peekType_ok hR) ?_
   rintro v2 w2 ⟨rfl,e2⟩
   refine gqo 6 rfl ?_
   refine gq 4 rfl ?_
   refine WL.q rfl (r_ifneNil Fb.h rfl) ?_
   refine WL.nil ?_
   refine WC.condF rfl ?_
   refine WC.skip ?_
   refine gq 128 rfl ?_
   replace hR:=hR.mono e2
   refine cl rfl (readDouble_pc (x:=V.mk _ _ t ks o []) rfl hNL hP0 hR) ?_
   rintro v3 w3 ⟨rfl,hR,e3⟩
   refine q ?_
   exact fin2 rfl rfl ⟨_,rfl,RepA.scal rfl,hR,ch⟩
  ·refine do2 Tryz.func135 ?_
   refine q ?_
   refine cl rfl (tryReadNull_no hR (by decide)) ?_
   rintro v1 w1 ⟨rfl,e1⟩
   refine q ?_
   replace hR:=hR.mono e1
   refine cl rfl (peekType_ok hR) ?_
   rintro v2 w2 ⟨rfl,e2⟩
   refine gqo 6 rfl ?_
   refine gq 4 rfl ?_
   refine WL.q rfl (r_ifneNil Fb.h rfl) ?_
   refine WL.nil ?_
   refine WC.condF rfl ?_
   refine WC.skip ?_
   refine gq 170 rfl ?_
   replace hR:=hR.mono e2
   refine cl rfl (readTime_pc (x:=V.mk _ _ t ks o []) rfl hNL hP0 hR) ?_
   rintro v3 w3 ⟨rfl,hR,e3⟩
   refine q ?_
   exact fin2 rfl rfl ⟨_,rfl,RepA.scal rfl,hR,ch⟩
 case uint0=>
  refine do2 Tryz.func135 ?_
  refine q ?_
  refine cl rfl (tryReadNull_no hR (by decide)) ?_
  rintro v1 w1 ⟨rfl,e1⟩
  refine q ?_
  replace hR:=hR.mono e1
  refine cl rfl (peekType_ok hR) ?_
  rintro v2 w2 ⟨rfl,e2⟩
  refine gqo 6 rfl ?_
  refine gq 4 rfl ?_
  refine WL.q rfl (r_ifneNil Fb.h rfl) ?_
  refine WL.nil ?_
  refine WC.condF rfl ?_
  refine WC.skip ?_
  refine gq 62 rfl ?_
  exact ju
 case uint1 h=>
  refine do2 Tryz.func135 ?_
  refine q ?_
  refine cl rfl (tryReadNull_no hR (by decide)) ?_
  rintro v1 w1 ⟨rfl,e1⟩
  refine q ?_
  replace hR:=hR.mono e1
  refine cl rfl (peekType_ok hR) ?_
  rintro v2 w2 ⟨rfl,e2⟩
  refine gqo 6 rfl ?_
  refine gq 4 rfl ?_
  refine WL.q rfl (r_ifneNil Fb.h rfl) ?_
  refine WL.nil ?_
  refine WC.condF rfl ?_
  refine WC.skip ?_
  refine gq 59 rfl ?_
  exact ju
 case ulong0=>
  refine do2 Tryz.func135 ?_
  refine q ?_
  refine cl rfl (tryReadNull_no hR (by decide)) ?_
  rintro v1 w1 ⟨rfl,e1⟩
  refine q ?_
  replace hR:=hR.mono e1
  refine cl rfl (peekType_ok hR) ?_
  rintro v2 w2 ⟨rfl,e2⟩
  refine gqo 6 rfl ?_
  refine gq 4 rfl ?_
  refine WL.q rfl (r_ifneNil Fb.h rfl) ?_
  refine WL.nil ?_
  refine WC.condF rfl ?_
  refine WC.skip ?_
  refine gq 80 rfl ?_
  exact jK
 case ulong1 h=>
  refine do2 Tryz.func135 ?_
  refine q ?_
  refine cl rfl (tryReadNull_no hR (by decide)) ?_
  rintro v1 w1 ⟨rfl,e1⟩
  refine q ?_
  replace hR:=hR.mono e1
  refine cl rfl (peekType_ok hR) ?_
  rintro v2 w2 ⟨rfl,e2⟩
  refine gqo 6 rfl ?_
  refine gq 4 rfl ?_
  refine WL.q rfl (r_ifneNil Fb.h rfl) ?_
  refine WL.nil ?_
  refine WC.condF rfl ?_
  refine WC.skip ?_
  refine gq 77 rfl ?_
  exact jK
 case int1 h=>
  refine do2 Tryz.func135 ?_
  refine q ?_
  refine cl rfl (tryReadNull_no hR (by decide)) ?_
  rintro v1 w1 ⟨rfl,e1⟩
  refine q ?_
  replace hR:=hR.mono e1
  refine cl rfl (peekType_ok hR) ?_
  rintro v2 w2 ⟨rfl,e2⟩
  refine gqo 6 rfl ?_
  refine gq 4 rfl ?_
  refine WL.q rfl (r_ifneNil Fb.h rfl) ?_
  refine WL.nil ?_
  refine WC.condF rfl ?_
  refine WC.skip ?_
  refine gq 104 rfl ?_
  exact lR
 case long1 h=>
  refine do2 Tryz.func135 ?_
  refine q ?_
  refine cl rfl (tryReadNull_no hR (by decide)) ?_
  rintro v1 w1 ⟨rfl,e1⟩
  refine q ?_
  replace hR:=hR.mono e1
  refine cl rfl (peekType_ok hR) ?_
  rintro v2 w2 ⟨rfl,e2⟩
  refine gqo 6 rfl ?_
  refine gq 4 rfl ?_
  refine WL.q rfl (r_ifneNil Fb.h rfl) ?_
  refine WL.nil ?_
  refine WC.condF rfl ?_
  refine WC.skip ?_
  refine gq 116 rfl ?_
  exact mt
 case uuid=>
  refine do2 Tryz.func135 ?_
  refine q ?_
  refine cl rfl (tryReadNull_no hR (by decide)) ?_
  rintro v1 w1 ⟨rfl,e1⟩
  refine q ?_
  replace hR:=hR.mono e1
  refine cl rfl (peekType_ok hR) ?_
  rintro v2 w2 ⟨rfl,e2⟩
  refine gqo 6 rfl ?_
  refine gq 4 rfl ?_
  refine WL.q rfl (r_ifneNil Fb.h rfl) ?_
  refine WL.nil ?_
  refine WC.condF rfl ?_
  refine WC.skip ?_
  refine gq 176 rfl ?_
  replace hR:=hR.mono e2
  refine cl rfl (readUUID_pc (x:=V.mk _ _ t ks o []) rfl (ht17 rfl) hP0 hR) ?_
  rintro v3 w3 ⟨rfl,hR,e3⟩
  refine q ?_
  exact fin2 rfl rfl ⟨_,rfl,RepA.scal rfl,hR,ch⟩
 case bin1 h=>
  refine do2 Tryz.func135 ?_
  refine q ?_
  refine cl rfl (tryReadNull_no hR (by decide)) ?_
  rintro v1 w1 ⟨rfl,e1⟩
  refine q ?_
  replace hR:=hR.mono e1
  refine cl rfl (peekType_ok hR) ?_
  rintro v2 w2 ⟨rfl,e2⟩
  refine gqo 6 rfl ?_
  refine gq 4 rfl ?_
  refine WL.q rfl (r_ifneNil Fb.h rfl) ?_
  refine WL.nil ?_
  refine WC.condF rfl ?_
  refine WC.skip ?_
  refine gq 137 rfl ?_
  exact k8
 case bin4 h=>
  refine do2 Tryz.func135 ?_
  refine q ?_
  refine cl rfl (tryReadNull_no hR (by decide)) ?_
  rintro v1 w1 ⟨rfl,e1⟩
  refine q ?_
  replace hR:=hR.mono e1
  refine cl rfl (peekType_ok hR) ?_
  rintro v2 w2 ⟨rfl,e2⟩
  refine gqo 6 rfl ?_
  refine gq 4 rfl ?_
  refine WL.q rfl (r_ifneNil Fb.h rfl) ?_
  refine WL.nil ?_
  refine WC.condF rfl ?_
  refine WC.skip ?_
  refine gq 140 rfl ?_
  exact k8
 case str1 h=>
  refine do2 Tryz.func135 ?_
  refine q ?_
  refine cl rfl (tryReadNull_no hR (by decide)) ?_
  rintro v1 w1 ⟨rfl,e1⟩
  refine q ?_
  replace hR:=hR.mono e1
  refine cl rfl (peekType_ok hR) ?_
  rintro v2 w2 ⟨rfl,e2⟩
  refine gqo 6 rfl ?_
  refine gq 4 rfl ?_
  refine WL.q rfl (r_ifneNil Fb.h rfl) ?_
  refine WL.nil ?_
  refine WC.condF rfl ?_
  refine WC.skip ?_
  refine gq 149 rfl ?_
  exact kf
 case str4 h=>
  refine do2 Tryz.func135 ?_
  refine q ?_
  refine cl rfl (tryReadNull_no hR (by decide)) ?_
  rintro v1 w1 ⟨rfl,e1⟩
  refine q ?_
  replace hR:=hR.mono e1
  refine cl rfl (peekType_ok hR) ?_
  rintro v2 w2 ⟨rfl,e2⟩
  refine gqo 6 rfl ?_
  refine gq 4 rfl ?_
  refine WL.q rfl (r_ifneNil Fb.h rfl) ?_
  refine WL.nil ?_
  refine WC.condF rfl ?_
  refine WC.skip ?_
  refine gq 152 rfl ?_
  exact kf
 case sym1 h=>
  refine do2 Tryz.func135 ?_
  refine q ?_
  refine cl rfl (tryReadNull_no hR (by decide)) ?_
  rintro v1 w1 ⟨rfl,e1⟩
  refine q ?_
  replace hR:=hR.mono e1
  refine cl rfl (peekType_ok hR) ?_
  rintro v2 w2 ⟨rfl,e2⟩
  refine gqo 6 rfl ?_
  refine gq 4 rfl ?_
  refine WL.q rfl (r_ifneNil Fb.h rfl) ?_
  refine WL.nil ?_
  refine WC.condF rfl ?_
  refine WC.skip ?_
  refine gq 161 rfl ?_
  exact j0
 case sym4 h=>
  refine do2 Tryz.func135 ?_
  refine q ?_
  refine cl rfl (tryReadNull_no hR (by decide)) ?_
  rintro v1 w1 ⟨rfl,e1⟩
  refine q ?_
  replace hR:=hR.mono e1
  refine cl rfl (peekType_ok hR) ?_
  rintro v2 w2 ⟨rfl,e2⟩
  refine gqo 6 rfl ?_
  refine gq 4 rfl ?_
  refine WL.q rfl (r_ifneNil Fb.h rfl) ?_
  refine WL.nil ?_
  refine WC.condF rfl ?_
  refine WC.skip ?_
  refine gq 164 rfl ?_
  exact j0
 case list0=>
  refine do2 Tryz.func135 ?_
  refine q ?_
  refine cl rfl (tryReadNull_no hR (by decide)) ?_
  rintro v1 w1 ⟨rfl,e1⟩
  refine q ?_
  replace hR:=hR.mono e1
  refine cl rfl (peekType_ok hR) ?_
  rintro v2 w2 ⟨rfl,e2⟩
  refine gqo 6 rfl ?_
  refine gq 4 rfl ?_
  refine WL.q rfl (r_ifneNil Fb.h rfl) ?_
  refine WL.nil ?_
  refine WC.condF rfl ?_
  refine WC.skip ?_
  refine gq 197 rfl ?_
  replace hR:=hR.mono e2
  refine cl rfl (readAnyList_ok (ks:=[]) (hd:=[0x45]) (body:=[]) (by simp) .nil (.inl ⟨rfl,rfl,rfl⟩) hR) ?_
  exact jx
 case list hd body h1 h2=>
  have hh:=h2
  rw[List.append_assoc]at hR
  rcases h2 with⟨s1,s2,rfl,_⟩|⟨_,_,_,_,_,_,_,_,rfl,_⟩
  ·refine do2 Tryz.func135 ?_
   refine q ?_
   refine cl rfl (tryReadNull_no hR (by decide)) ?_
   rintro v1 w1 ⟨rfl,e1⟩
   refine q ?_
   replace hR:=hR.mono e1
   refine cl rfl (peekType_ok hR) ?_
   rintro v2 w2 ⟨rfl,e2⟩
   refine gqo 6 rfl ?_
   refine gq 4 rfl ?_
   refine WL.q rfl (r_ifneNil Fb.h rfl) ?_
   refine WL.nil ?_
   refine WC.condF rfl ?_
   refine WC.skip ?_
   refine gq 203 rfl ?_
   replace hR:=hR.mono e2
   refine cl rfl (readAnyList_ok (hks (.inl rfl)) h1 hh.lst hR) ?_
   exact jx
  ·refine do2 Tryz.func135 ?_
   refine q ?_
   refine cl rfl (tryReadNull_no hR (by decide)) ?_
   rintro v1 w1 ⟨rfl,e1⟩
   refine q ?_
   replace hR:=hR.mono e1
   refine cl rfl (peekType_ok hR) ?_
   rintro v2 w2 ⟨rfl,e2⟩
   refine gqo 6 rfl ?_
   refine gq 4 rfl ?_
   refine WL.q rfl (r_ifneNil Fb.h rfl) ?_
   refine WL.nil ?_
   refine WC.condF rfl ?_
   refine WC.skip ?_
   refine gq 206 rfl ?_
   replace hR:=hR.mono e2
   refine cl rfl (readAnyList_ok (hks (.inl rfl)) h1 hh.lst hR) ?_
   exact jx
 case map hd body h1 h2=>
  have hh:=h2
  rw[List.append_assoc]at hR
  rcases h2 with⟨s1,s2,rfl,_⟩|⟨_,_,_,_,_,_,_,_,rfl,_⟩
  ·refine do2 Tryz.func135 ?_
   refine q ?_
   refine cl rfl (tryReadNull_no hR (by decide)) ?_
   rintro v1 w1 ⟨rfl,e1⟩
   refine q ?_
   replace hR:=hR.mono e1
   refine cl rfl (peekType_ok hR) ?_
   rintro v2 w2 ⟨rfl,e2⟩
   refine gqo 6 rfl ?_
   refine gq 4 rfl ?_
   refine WL.q rfl (r_ifneNil Fb.h rfl) ?_
   refine WL.nil ?_
   refine WC.condF rfl ?_
   refine WC.skip ?_
   refine gq 212 rfl ?_
   exact mO
  ·refine do2 Tryz.func135 ?_
   refine q ?_
   refine cl rfl (tryReadNull_no hR (by decide)) ?_
   rintro v1 w1 ⟨rfl,e1⟩
   refine q ?_
   replace hR:=hR.mono e1
   refine cl rfl (peekType_ok hR) ?_
   rintro v2 w2 ⟨rfl,e2⟩
   refine gqo 6 rfl ?_
   refine gq 4 rfl ?_
   refine WL.q rfl (r_ifneNil Fb.h rfl) ?_
   refine WL.nil ?_
   refine WC.condF rfl ?_
   refine WC.skip ?_
   refine gq 218 rfl ?_
   exact mO
 case arr h0 h1 h2=>
  have hh:=h2
  rw[List.append_assoc]at hR
  rcases h2 with⟨s1,s2,rfl,_⟩|⟨_,_,_,_,_,_,_,_,rfl,_⟩
  ·refine do2 Tryz.func135 ?_
   refine q ?_
   refine cl rfl (tryReadNull_no hR (by decide)) ?_
   rintro v1 w1 ⟨rfl,e1⟩
   refine q ?_
   replace hR:=hR.mono e1
   refine cl rfl (peekType_ok hR) ?_
   rintro v2 w2 ⟨rfl,e2⟩
   refine gqo 6 rfl ?_
   refine gq 4 rfl ?_
   refine WL.q rfl (r_ifneNil Fb.h rfl) ?_
   refine WL.nil ?_
   refine WC.condF rfl ?_
   refine WC.skip ?_
   refine gq 185 rfl ?_
   exact lA
  ·refine do2 Tryz.func135 ?_
   refine q ?_
   refine cl rfl (tryReadNull_no hR (by decide)) ?_
   rintro v1 w1 ⟨rfl,e1⟩
   refine q ?_
   replace hR:=hR.mono e1
   refine cl rfl (peekType_ok hR) ?_
   rintro v2 w2 ⟨rfl,e2⟩
   refine gqo 6 rfl ?_
   refine gq 4 rfl ?_
   refine WL.q rfl (r_ifneNil Fb.h rfl) ?_
   refine WL.nil ?_
   refine WC.condF rfl ?_
   refine WC.skip ?_
   refine gq 188 rfl ?_
   exact lA
theorem Fine.mapOK{n:Nat}{t:List UInt8}{ks:List V}{o:Int}{d:List V}(h:Fine (.mk 22 n t ks o d)):MapOK ks:=by
 rw[Fine]at h
 obtain⟨_,_,_,_,_,_,h,_⟩:=h
 obtain⟨h1,h2,h3,h4⟩:=h rfl
 refine⟨h2,fun x hx=>⟨h3 x hx,?_⟩,h4⟩
 have key:∀l:List V,FineL l→∀x∈keysOf l,plainOK x:=by
  intro l
  induction l using keysOf.induct with
  |case1 k v r ih=>
   intro hl x hx
   simp only[FineL]at hl
   simp only[keysOf,List.mem_cons]at hx
   rcases hx with rfl|hx
   ·obtain⟨k',n',t',ks',o',d'⟩:=x
    have:=hl.1
    simp only[Fine]at this
    exact this.1
   ·exact ih hl.2.2 x hx
  |case2 l h=>
   intro _ x hx
   match l,h with
   |[],_=>simp[keysOf]at hx
   |[a],_=>simp[keysOf]at hx
   |a::b::r,h=>exact absurd rfl (h a b r)
 exact key ks h1 x hx
mutual
theorem rJ:∀x:V,Fine x→Reads x
 | .mk k n t ks o d,h=>gY h (fun hk=>by
   rw[Fine]at h
   rcases hk with rfl|rfl
   ·exact gB ks (h.2.2.2.2.2.1 rfl)
   ·exact gB ks (h.2.2.2.2.2.2.1 rfl).1) (fun hk=>by subst hk;exact h.mapOK) (fun hk=>by
   rw[Fine]at h
   obtain⟨h1,kk,h2,h3⟩:=h.2.2.2.2.2.2.2 hk
   exact⟨h1,fun x hx=>⟨(h3 x hx).2.1,fun hk2=>(h3 x hx).2.2 (by rw[← (h3 x hx).1];exact hk2)⟩⟩)
theorem gB:∀l:List V,FineL l→∀x∈l,Reads x
 |[],_,x,hx=>by cases hx
 |a::r,h,x,hx=>by
  simp only[FineL]at h
  rcases List.mem_cons.1 hx with e|hx
  ·exact e▸rJ a h.1
  ·exact gB r h.2 x hx
end
def ay(A:Nat→Prop)(w:World):List V→List (List UInt8×Value)→Prop
 |[],l=>l=[]
 |[_],l=>l=[]
 |k::v::r,l=>∃b l',l=(k.text,b)::l'∧RepA A w v b∧ay A w r l'
section
variable {A B:Nat→Prop} {w w':World}
theorem ay.mono':∀ {ks:List V} {l:List (List UInt8×Value)},ay A w ks l→Evo B w w'→(∀b,b<w.heap.size→A b→B b)→ay A w' ks l
 |[],l,h,_,_=>by simpa only[ay]using h
 |[_],l,h,_,_=>by simpa only[ay]using h
 |k::v::r,l,h,e,hAB=>by
  simp only[ay]at h⊢
  obtain⟨b,l',h1,h3,h4⟩:=h
  exact⟨b,l',h1,RepA.mono' h3 e hAB,ay.mono' h4 e hAB⟩
theorem ay.mono{x:List V}{y:List (List UInt8×Value)}(h:ay A w x y)(e:Evo B w w')(hAB:∀b,b<w.heap.size→A b→B b:=by(intro b hb1 hb2;first|exact trivial|exact hb2|((try dsimp only[Nb]at hb2⊢);omega))):ay A w' x y:=h.mono' e hAB
theorem ay.weaken:∀ {ks:List V} {l:List (List UInt8×Value)},ay A w ks l→(∀b,A b→B b)→ay B w ks l
 |[],l,h,_=>by simpa only[ay]using h
 |[_],l,h,_=>by simpa only[ay]using h
 |k::v::r,l,h,hAB=>by
  simp only[ay]at h⊢
  obtain⟨b,l',h1,h3,h4⟩:=h
  exact⟨b,l',h1,RepA.weaken h3 hAB,ay.weaken h4 hAB⟩
theorem ay.snoc:∀ {ks:List V} {l:List (List UInt8×Value)} {x y:V} {b:Value},ks.length%2=0→ay A w ks l→RepA A w y b→ay A w (ks++[x,y]) (l++[(x.text,b)])
 |[],l,x,y,b,_,h,h2=>by
  simp only[ay]at h
  subst h
  simp only[List.nil_append,ay]
  exact⟨b,[],rfl,h2,rfl⟩
 |[_],l,x,y,b,h0,_,_=>by simp at h0
 |k::v::r,l,x,y,b,h0,h,h2=>by
  simp only[ay]at h
  obtain⟨d,l',rfl,h4,h5⟩:=h
  simp only[List.cons_append,ay]
  exact⟨d,l'++[(x.text,b)],rfl,h4,ay.snoc (by simp at h0;omega) h5 h2⟩
theorem ay.length:∀ {ks:List V} {l:List (List UInt8×Value)},ay A w ks l→l.length=ks.length / 2
 |[],l,h=>by simp only[ay]at h;simp[h]
 |[_],l,h=>by simp only[ay]at h;simp[h]
 |k::v::r,l,h=>by
  simp only[ay]at h
  obtain⟨b,l',rfl,_,h4⟩:=h
  simp[ay.length h4];omega
theorem ay.keys:∀ {ks:List V} {l:List (List UInt8×Value)},ay A w ks l→∀p∈l,∃x∈keysOf ks,p.1=x.text
 |[],l,h,p,hp=>by simp only[ay]at h;subst h;cases hp
 |[_],l,h,p,hp=>by simp only[ay]at h;subst h;cases hp
 |k::v::r,l,h,p,hp=>by
  simp only[ay]at h
  obtain⟨b,l',rfl,h2,h3⟩:=h
  rcases List.mem_cons.1 hp with rfl|hp
  ·exact⟨k,by simp[keysOf],rfl⟩
  ·obtain⟨x,hx,h4⟩:=ay.keys h3 p hp
   exact⟨x,by simp[keysOf,hx],h4⟩
end
def jS(p:List UInt8×Value):Value×Value:=(str p.1,p.2)
theorem j2{x y:V}(hx:x.kind=19∨x.kind=20)(hy:y.kind=19∨y.kind=20)(px:plainOK x)(py:plainOK y)(h:asKey x≠asKey y):x.text≠y.text:=by
 intro e
 apply h
 unfold asKey
 rw[px.2.2.2.2.2 (by omega),py.2.2.2.2.2 (by omega),e]
 have e1:(if x.kind=20 then(19:Int)else x.kind)=19:=by split<;>omega
 have e2:(if y.kind=20 then(19:Int)else y.kind)=19:=by split<;>omega
 rw[e1,e2]
end Go.Proofs.LL
