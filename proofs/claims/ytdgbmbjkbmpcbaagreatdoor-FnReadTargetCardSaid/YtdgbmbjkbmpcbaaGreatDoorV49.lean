/- Own laws of frames, operations and loops, and contracts of functions of the program. Conditions: those that each theorem states. -/
import Derived.Test.YtdgbmbjkbmpcbaaGreatDoorV48
set_option linter.all false
set_option maxRecDepth 20000
namespace Go.Proofs.LL
open Go Go.Proofs Go.RowKit
set_option maxHeartbeats 4000000
attribute [local irreducible] RunOp WL WC WDL WT WX
theorem mH{A:Prop}(h:A:=by
 replace hK:=(hK.mono e1).mono e2
 replace hK':=(hK'.mono e1).mono e2
 refine WC.seq<|WC.seq<|WC.regionD (tt [0,1,2,3,4,5,6,7,8,9,10,11,12,13,14,15,16,17,18,19,20,21,22,23,24,25,26,27,28,29,30,31,32,33,34,35,36]++ff [37]++tt [38,39,40]) (Ext _) mixed (by kernel_rfl) (Ext.drew _) ?_
 refine jE 1 rfl<|dl rfl hb1 rfl<|jE 1 rfl<|dl rfl hb2 rfl ?_
 refine WD.q rfl (fun _ hS=>r_cmp (r_neq rfl rfl) (bneF (by(omega)))) ?_
 refine jE 2 rfl<|bl rfl rfl rfl hb1 rfl<|jE 2 rfl<|bl rfl rfl rfl hb2 rfl<|jE 1 rfl ?_
 refine WD.qg rfl rfl rfl rfl (fun _ hS=>r_cmp (r_neq rfl rfl) (bneF (by(omega)))) ?_
 refine jE 3 rfl<|bl rfl rfl rfl hb1 rfl<|jE 2 rfl<|bl rfl rfl rfl hb2 rfl<|jE 1 rfl ?_
 refine WD.qg rfl rfl rfl rfl (fun _ hS=>r_cmp (r_neq rfl rfl) (bneT (by(simp;omega)))) ?_
 refine jE 15 rfl ?_
 refine WD.lsk rfl ((Evo.drew _)) rfl rfl rfl rfl rfl ?_
 refine jE 3 rfl<|WD.nil<|jA 5 rfl<|WC.ret ?_
 replace he:=(he.then e2).then (Ext.drew _)
 exact fin1 rfl ⟨_,rfl,fun e=>absurd (congrArg List.length (qLo e).2.2.2.1) h2,he⟩):A:=h
theorem mU{A:Prop}(h:A:=by
 replace hK:=(hK.mono e1).mono e2
 replace hK':=(hK'.mono e1).mono e2
 refine WC.seq<|WC.seq<|WC.regionD (tt [0,1,2,3,4,5,6,7,8,9,10,11,12,13,14,15,16,17,18,19,20,21,22,23,24,25,26,27,28,29,30,31,32,33,34,35,36]++ff [37]++tt [38,39,40]) (Ext _) mixed (by kernel_rfl) (Ext.drew _) ?_
 refine jE 1 rfl<|dl rfl hb1 rfl<|jE 1 rfl<|dl rfl hb2 rfl ?_
 refine WD.q rfl (fun _ hS=>r_cmp (r_neq rfl rfl) (bneF (by(omega)))) ?_
 refine jE 2 rfl<|bl rfl rfl rfl hb1 rfl<|jE 2 rfl<|bl rfl rfl rfl hb2 rfl<|jE 1 rfl ?_
 refine WD.qg rfl rfl rfl rfl (fun _ hS=>r_cmp (r_neq rfl rfl) (bneT (by(omega)))) ?_
 refine jE 24 rfl ?_
 refine WD.lsk rfl ((Evo.drew _)) rfl rfl rfl rfl rfl ?_
 refine jE 3 rfl<|WD.nil<|jA 5 rfl<|WC.ret ?_
 replace he:=(he.then e2).then (Ext.drew _)
 exact fin1 rfl ⟨_,rfl,fun e=>absurd (qLo e).2.1 h1,he⟩):A:=h
theorem lI{A:Prop}(h:A:=by
 replace hK:=(hK.mono e1).mono e2
 replace hK':=(hK'.mono e1).mono e2
 refine WC.seq<|WC.seq<|WC.regionD (tt [0,1,2,3,4,5,6,7,8,9,10,11,12,13,14,15,16,17,18,19,20,21,22,23,24,25,26,27,28,29,30,31,32,33,34,35,36]++ff [37]++tt [38,39,40]) (Ext _) mixed (by kernel_rfl) (Ext.drew _) ?_
 refine jE 1 rfl<|dl rfl hb1 rfl<|jE 1 rfl<|dl rfl hb2 rfl ?_
 refine WD.q rfl (fun _ hS=>r_cmp (r_neq rfl rfl) (bneT ((Ne.symm h)))) ?_
 refine jE 32 rfl ?_
 refine WD.lsk rfl ((Evo.drew _)) rfl rfl rfl rfl rfl ?_
 refine jE 3 rfl<|WD.nil<|jA 5 rfl<|WC.ret ?_
 replace he:=(he.then e2).then (Ext.drew _)
 exact fin1 rfl ⟨_,rfl,fun e=>absurd (qLo e).1 h,he⟩):A:=h
mutual
def ND:V→Prop
 | .mk k _ _ ks _ d=>d=[]∧(k=21∨k=22→fv ks)
def fv:List V→Prop
 |[]=>True
 |x::r=>ND x∧fv r
end
theorem fv.mem:∀ {l:List V},fv l→∀x∈l,ND x
 |[],_,x,hx=>by cases hx
 |a::r,h,x,hx=>by
  rw[fv]at h
  rcases List.mem_cons.1 hx with rfl|hx
  ·exact h.1
  ·exact fv.mem h.2 x hx
theorem fv.of:∀ {l:List V},(∀x∈l,ND x)→fv l
 |[],_=>by rw[fv];trivial
 |a::r,h=>by rw[fv];exact⟨h a (by simp),fv.of fun x hx=>h x (by simp[hx])⟩
theorem fq:∀ {ks l:List V} {i:Nat},b8 ks l→i<ks.length→av (aq ks i) (aq l i)
 |[],_,i,_,hi=>absurd hi (by simp)
 |a::r,l,0,h,_=>by
  rw[b8]at h
  obtain⟨b,s,rfl,h1,_⟩:=h
  exact h1
 |a::r,l,i+1,h,hi=>by
  rw[b8]at h
  obtain⟨b,s,rfl,_,h2⟩:=h
  exact fq (i:=i) h2 (by simpa using hi)
theorem eW:∀ {ks l:List V} {i:Nat},a7 ks l→2 * i+1<ks.length→∃j,2 * j+1<l.length∧same (aq ks (2 * i)) (aq l (2 * j))=true∧av (aq ks (2 * i+1)) (aq l (2 * j+1))
 |[],_,i,_,hi=>absurd hi (by simp)
 |[a],_,i,_,hi=>absurd hi (by simp)
 |a::v::r,l,0,h,_=>by
  rw[a7]at h
  obtain⟨⟨j,x,y,h1,h2,h3,h4⟩,_⟩:=h
  refine⟨j,(List.getElem?_eq_some_iff.1 h2).1,?_,?_⟩
  ·rw[aq,aq,h1];exact h3
  ·rw[aq,aq,h2];exact h4
 |a::v::r,l,i+1,h,hi=>by
  rw[a7]at h
  exact eW (i:=i) h.2 (by simp only[List.length_cons]at hi;omega)
def bp(x:V):Prop:=∀(A B:Nat→Prop) (y:V) (cx cy:List Value) (w:World),ND x→ah x≤1000000000→ah y≤1000000000→ag A w x cx→ag B w y cy→
 Does TP 177 [.agg cx.toArray,.agg cy.toArray] w fun r w'=>∃b,r= .bool b∧(av x y→b=true)∧Ext w w'
theorem av.kids{k:Int}{n:Nat}{t:List UInt8}{ks:List V}{o:Int}{d:List V}{y:V}(h:av (.mk k n t ks o d) y)(hk:k=21∨k=22):y.kind=k∧ks.length=y.kids.length∧d=[]∧y.desc=[]∧(k=21→b8 ks y.kids)∧(k=22→a7 ks y.kids):=by
 rw[av]at h
 rcases h with⟨h1,h2,_⟩|⟨rfl,h2,h3,h4,h5,h6⟩|⟨rfl,h2,h3,h4,h5,h6⟩
 ·omega
 ·exact⟨h2,h3,h4,h5,fun _=>h6,fun h=>by omega⟩
 ·exact⟨h2,h3,h4,h5,fun h=>by omega,fun _=>h6⟩
theorem lr{n:Nat}{t:List UInt8}{ks:List V}{o:Int}(hks:∀x∈ks,bp x){A B:Nat→Prop}{k':Int}{n':Nat}{t':List UInt8}{ks' d':List V}{o':Int}{cx cy:List Value}{w:World}(hNK:fv ks)(hv:ad ks≤1000000000)(hv2:ad ks'≤1000000000)(hx:ag A w (.mk 21 n t ks o []) cx)(hy:ag B w (.mk k' n' t' ks' o' d') cy)(h:k'≠21):
  Does TP 177 [.agg cx.toArray,.agg cy.toArray] w fun r w'=>∃b,r= .bool b∧(av (.mk 21 n t ks o []) (.mk k' n' t' ks' o' d')→b=true)∧Ext w w':=by
 have qLo:=fun h:av (.mk 21 n t ks o []) (.mk k' n' t' ks' o' d')=>h.kids (by omega)
 simp only[V.kind,V.kids,V.desc]at qLo
 have nkl:=ae ks
 have nkl2:=ae ks'
 obtain⟨pk,ck,pd,cd,rfl,_,_,hK,_⟩:=hx.openV
 obtain⟨pk',ck',pd',cd',rfl,_,_,hK',_⟩:=hy.openV
 refine do1 Tryz.func177 ?_
 have he:Evo (fun _=>True) w w:=Evo.refl w
 refine jA 2 rfl ?_
 have hs1:=he.size
 refine bx rfl ?_
 rintro _ w1 ⟨rfl,hb1,e1⟩
 replace he:=he.then e1
 have hs2:=he.size
 have hx2b1:=hb1.lt
 refine bx rfl ?_
 rintro _ w2 ⟨rfl,hb2,e2⟩
 refine jD 6 rfl ?_
 replace hb1:=hb1.mono e2
 refine ld rfl hb1 rfl<|jD 9 rfl ?_
 exact lI
theorem mQ{n:Nat}{t:List UInt8}{ks:List V}{o:Int}(hks:∀x∈ks,bp x){A B:Nat→Prop}{k':Int}{n':Nat}{t':List UInt8}{ks' d':List V}{o':Int}{cx cy:List Value}{w:World}(hNK:fv ks)(hv:ad ks≤1000000000)(hv2:ad ks'≤1000000000)(hx:ag A w (.mk 21 n t ks o []) cx)(hy:ag B w (.mk k' n' t' ks' o' d') cy)(h:k'=21)(h1:ks.length≠ks'.length):
  Does TP 177 [.agg cx.toArray,.agg cy.toArray] w fun r w'=>∃b,r= .bool b∧(av (.mk 21 n t ks o []) (.mk k' n' t' ks' o' d')→b=true)∧Ext w w':=by
 have qLo:=fun h:av (.mk 21 n t ks o []) (.mk k' n' t' ks' o' d')=>h.kids (by omega)
 simp only[V.kind,V.kids,V.desc]at qLo
 have nkl:=ae ks
 have nkl2:=ae ks'
 obtain⟨pk,ck,pd,cd,rfl,_,_,hK,_⟩:=hx.openV
 obtain⟨pk',ck',pd',cd',rfl,_,_,hK',_⟩:=hy.openV
 refine do1 Tryz.func177 ?_
 have he:Evo (fun _=>True) w w:=Evo.refl w
 refine jA 2 rfl ?_
 have hs1:=he.size
 refine bx rfl ?_
 rintro _ w1 ⟨rfl,hb1,e1⟩
 replace he:=he.then e1
 have hs2:=he.size
 have hx2b1:=hb1.lt
 refine bx rfl ?_
 rintro _ w2 ⟨rfl,hb2,e2⟩
 refine jD 6 rfl ?_
 replace hb1:=hb1.mono e2
 refine ld rfl hb1 rfl<|jD 9 rfl ?_
 exact mU
theorem ly{n:Nat}{t:List UInt8}{ks:List V}{o:Int}(hks:∀x∈ks,bp x){A B:Nat→Prop}{k':Int}{n':Nat}{t':List UInt8}{ks' d':List V}{o':Int}{cx cy:List Value}{w:World}(hNK:fv ks)(hv:ad ks≤1000000000)(hv2:ad ks'≤1000000000)(hx:ag A w (.mk 21 n t ks o []) cx)(hy:ag B w (.mk k' n' t' ks' o' d') cy)(h:k'=21)(h1:ks.length=ks'.length)(h2:d'.length≠0):
  Does TP 177 [.agg cx.toArray,.agg cy.toArray] w fun r w'=>∃b,r= .bool b∧(av (.mk 21 n t ks o []) (.mk k' n' t' ks' o' d')→b=true)∧Ext w w':=by
 have qLo:=fun h:av (.mk 21 n t ks o []) (.mk k' n' t' ks' o' d')=>h.kids (by omega)
 simp only[V.kind,V.kids,V.desc]at qLo
 have nkl:=ae ks
 have nkl2:=ae ks'
 obtain⟨pk,ck,pd,cd,rfl,_,_,hK,_⟩:=hx.openV
 obtain⟨pk',ck',pd',cd',rfl,_,_,hK',_⟩:=hy.openV
 refine do1 Tryz.func177 ?_
 have he:Evo (fun _=>True) w w:=Evo.refl w
 refine jA 2 rfl ?_
 have hs1:=he.size
 refine bx rfl ?_
 rintro _ w1 ⟨rfl,hb1,e1⟩
 replace he:=he.then e1
 have hs2:=he.size
 have hx2b1:=hb1.lt
 refine bx rfl ?_
 rintro _ w2 ⟨rfl,hb2,e2⟩
 refine jD 6 rfl ?_
 replace hb1:=hb1.mono e2
 refine ld rfl hb1 rfl<|jD 9 rfl ?_
 exact mH
theorem lx{n:Nat}{t:List UInt8}{ks:List V}{o:Int}(hks:∀x∈ks,bp x){A B:Nat→Prop}{k':Int}{n':Nat}{t':List UInt8}{ks' d':List V}{o':Int}{cx cy:List Value}{w:World}(hNK:fv ks)(hv:ad ks≤1000000000)(hv2:ad ks'≤1000000000)(hx:ag A w (.mk 22 n t ks o []) cx)(hy:ag B w (.mk k' n' t' ks' o' d') cy)(h:k'≠22):
  Does TP 177 [.agg cx.toArray,.agg cy.toArray] w fun r w'=>∃b,r= .bool b∧(av (.mk 22 n t ks o []) (.mk k' n' t' ks' o' d')→b=true)∧Ext w w':=by
 have qLo:=fun h:av (.mk 22 n t ks o []) (.mk k' n' t' ks' o' d')=>h.kids (by omega)
 simp only[V.kind,V.kids,V.desc]at qLo
 have nkl:=ae ks
 have nkl2:=ae ks'
 obtain⟨pk,ck,pd,cd,rfl,_,_,hK,_⟩:=hx.openV
 obtain⟨pk',ck',pd',cd',rfl,_,_,hK',_⟩:=hy.openV
 refine do1 Tryz.func177 ?_
 have he:Evo (fun _=>True) w w:=Evo.refl w
 refine jA 2 rfl ?_
 have hs1:=he.size
 refine bx rfl ?_
 rintro _ w1 ⟨rfl,hb1,e1⟩
 replace he:=he.then e1
 have hs2:=he.size
 have hx2b1:=hb1.lt
 refine bx rfl ?_
 rintro _ w2 ⟨rfl,hb2,e2⟩
 refine jD 6 rfl ?_
 replace hb1:=hb1.mono e2
 refine ld rfl hb1 rfl<|jC 3 rfl<|lg rfl rfl rfl hb1 rfl<|jD 5 rfl ?_
 exact lI
theorem kT{n:Nat}{t:List UInt8}{ks:List V}{o:Int}(hks:∀x∈ks,bp x){A B:Nat→Prop}{k':Int}{n':Nat}{t':List UInt8}{ks' d':List V}{o':Int}{cx cy:List Value}{w:World}(hNK:fv ks)(hv:ad ks≤1000000000)(hv2:ad ks'≤1000000000)(hx:ag A w (.mk 22 n t ks o []) cx)(hy:ag B w (.mk k' n' t' ks' o' d') cy)(h:k'=22)(h1:ks.length≠ks'.length):
  Does TP 177 [.agg cx.toArray,.agg cy.toArray] w fun r w'=>∃b,r= .bool b∧(av (.mk 22 n t ks o []) (.mk k' n' t' ks' o' d')→b=true)∧Ext w w':=by
 have qLo:=fun h:av (.mk 22 n t ks o []) (.mk k' n' t' ks' o' d')=>h.kids (by omega)
 simp only[V.kind,V.kids,V.desc]at qLo
 have nkl:=ae ks
 have nkl2:=ae ks'
 obtain⟨pk,ck,pd,cd,rfl,_,_,hK,_⟩:=hx.openV
 obtain⟨pk',ck',pd',cd',rfl,_,_,hK',_⟩:=hy.openV
 refine do1 Tryz.func177 ?_
 have he:Evo (fun _=>True) w w:=Evo.refl w
 refine jA 2 rfl ?_
 have hs1:=he.size
 refine bx rfl ?_
 rintro _ w1 ⟨rfl,hb1,e1⟩
 replace he:=he.then e1
 have hs2:=he.size
 have hx2b1:=hb1.lt
 refine bx rfl ?_
 rintro _ w2 ⟨rfl,hb2,e2⟩
 refine jD 6 rfl ?_
 replace hb1:=hb1.mono e2
 refine ld rfl hb1 rfl<|jC 3 rfl<|lg rfl rfl rfl hb1 rfl<|jD 5 rfl ?_
 exact mU
theorem lz{n:Nat}{t:List UInt8}{ks:List V}{o:Int}(hks:∀x∈ks,bp x){A B:Nat→Prop}{k':Int}{n':Nat}{t':List UInt8}{ks' d':List V}{o':Int}{cx cy:List Value}{w:World}(hNK:fv ks)(hv:ad ks≤1000000000)(hv2:ad ks'≤1000000000)(hx:ag A w (.mk 22 n t ks o []) cx)(hy:ag B w (.mk k' n' t' ks' o' d') cy)(h:k'=22)(h1:ks.length=ks'.length)(h2:d'.length≠0):
  Does TP 177 [.agg cx.toArray,.agg cy.toArray] w fun r w'=>∃b,r= .bool b∧(av (.mk 22 n t ks o []) (.mk k' n' t' ks' o' d')→b=true)∧Ext w w':=by
 have qLo:=fun h:av (.mk 22 n t ks o []) (.mk k' n' t' ks' o' d')=>h.kids (by omega)
 simp only[V.kind,V.kids,V.desc]at qLo
 have nkl:=ae ks
 have nkl2:=ae ks'
 obtain⟨pk,ck,pd,cd,rfl,_,_,hK,_⟩:=hx.openV
 obtain⟨pk',ck',pd',cd',rfl,_,_,hK',_⟩:=hy.openV
 refine do1 Tryz.func177 ?_
 have he:Evo (fun _=>True) w w:=Evo.refl w
 refine jA 2 rfl ?_
 have hs1:=he.size
 refine bx rfl ?_
 rintro _ w1 ⟨rfl,hb1,e1⟩
 replace he:=he.then e1
 have hs2:=he.size
 have hx2b1:=hb1.lt
 refine bx rfl ?_
 rintro _ w2 ⟨rfl,hb2,e2⟩
 refine jD 6 rfl ?_
 replace hb1:=hb1.mono e2
 refine ld rfl hb1 rfl<|jC 3 rfl<|lg rfl rfl rfl hb1 rfl<|jD 5 rfl ?_
 exact mH
theorem iL{n:Nat}{t:List UInt8}{ks:List V}{o:Int}(hks:∀x∈ks,bp x){A B:Nat→Prop}{k':Int}{n':Nat}{t':List UInt8}{ks' d':List V}{o':Int}{cx cy:List Value}{w:World}(hNK:fv ks)(hv:ad ks≤1000000000)(hv2:ad ks'≤1000000000)(hx:ag A w (.mk 21 n t ks o []) cx)(hy:ag B w (.mk k' n' t' ks' o' d') cy)(h:k'=21)(h1:ks.length=ks'.length)(h2:d'.length=0):
  Does TP 177 [.agg cx.toArray,.agg cy.toArray] w fun r w'=>∃b,r= .bool b∧(av (.mk 21 n t ks o []) (.mk k' n' t' ks' o' d')→b=true)∧Ext w w':=by
 have qLo:=fun h:av (.mk 21 n t ks o []) (.mk k' n' t' ks' o' d')=>h.kids (by omega)
 simp only[V.kind,V.kids,V.desc]at qLo
 have nkl:=ae ks
 have nkl2:=ae ks'
 obtain⟨pk,ck,pd,cd,rfl,_,_,hK,_⟩:=hx.openV
 obtain⟨pk',ck',pd',cd',rfl,_,_,hK',_⟩:=hy.openV
 refine do1 Tryz.func177 ?_
 have he:Evo (fun _=>True) w w:=Evo.refl w
 refine jA 2 rfl ?_
 have hs1:=he.size
 refine bx rfl ?_
 rintro _ w1 ⟨rfl,hb1,e1⟩
 replace he:=he.then e1
 have hs2:=he.size
 have hx2b1:=hb1.lt
 refine bx rfl ?_
 rintro _ w2 ⟨rfl,hb2,e2⟩
 refine jC 2 rfl<|jA 4 rfl ?_
 replace hb1:=hb1.mono e2
 refine ld rfl hb1 rfl<|jC 7 rfl<|jA 2 rfl ?_
 replace hK:=(hK.mono e1).mono e2
 replace hK':=(hK'.mono e1).mono e2
 refine WC.seq<|WC.seq<|WC.regionD (tt [0,1,2,3,4,5,6,7,8,9,10,11,12,13,14,15,16,17,18,19,20,21,22,23,24,25,26,27,28,29,30,31,32,33,34,35,36]++ff [37]++tt [38,39,40]) (Ext _) mixed (by kernel_rfl) (Ext.drew _) ?_
 refine jE 1 rfl<|dl rfl hb1 rfl<|jE 1 rfl<|dl rfl hb2 rfl ?_
 refine WD.q rfl (fun _ hS=>r_cmp (r_neq rfl rfl) (bneF (by(omega)))) ?_
 refine jE 2 rfl<|bl rfl rfl rfl hb1 rfl<|jE 2 rfl<|bl rfl rfl rfl hb2 rfl<|jE 1 rfl ?_
 refine WD.qg rfl rfl rfl rfl (fun _ hS=>r_cmp (r_neq rfl rfl) (bneF (by(omega)))) ?_
 refine jE 3 rfl<|bl rfl rfl rfl hb1 rfl<|jE 2 rfl<|bl rfl rfl rfl hb2 rfl<|jE 1 rfl ?_
 refine WD.qg rfl rfl rfl rfl (fun _ hS=>r_cmp (r_neq rfl rfl) (bneF (by(simp;omega)))) ?_
 refine jE 3 rfl<|bl rfl rfl rfl hb1 rfl<|jE 1 rfl ?_
 refine WD.qg rfl rfl rfl rfl (fun _ hS=>r_cmp (r_eql rfl rfl) (beqF (by(decide)))) ?_
 refine jE 9 rfl ?_
 refine WD.lsk rfl ((Evo.drew _)) rfl rfl rfl rfl rfl ?_
 refine jE 3 rfl<|WD.nil<|jA 2 rfl<|jA 4 rfl ?_
 replace hb1:=hb1.mono (Ext.drew _)
 refine ld rfl hb1 rfl<|jC 2 rfl<|jA 5 rfl<|ld rfl hb1 rfl<|jC 3 rfl<|jA 1 rfl ?_
 replace hK:=hK.mono (Ext.drew _)
 replace hK':=hK'.mono (Ext.drew _)
 replace hb2:=hb2.mono (Ext.drew _)
 replace he:=(he.then e2).then (Ext.drew _)
 refine WC.loop2 (ι:=Nat) [(2,_),(3,_),(4,_),(66,_)] (fun i=>[(67,.int .i64 (i:Int))]) (fun i wi=>i≤ks.length∧Ext w2.drew wi) (fun i=>ks.length-i) 0 sb sb (⟨Nat.zero_le _,Ext.refl _⟩) ?_
 intro i wi1 hh;obtain⟨ni,hE⟩:=hh
 rcases Nat.lt_or_ge i ks.length with qi|qi
 replace hK:=hK.mono hE
 ·obtain⟨b,o1,c1,rfl,_,hA1,l1,hR1⟩:=hK.kid qi
  replace hK':=hK'.mono hE
  obtain⟨b',o2,c2,rfl,_,hA2,l2,hR2⟩:=hK'.kid (i:=i) (by omega)
  refine jA 2 rfl<|lT rfl rfl<|WL.nil<|jA 10 rfl ?_
  replace hb1:=hb1.mono hE
  replace hb2:=hb2.mono hE
  refine WC.seq<|WC.regionD (tt [0,1,2,3,4,5,6,7,8,9]++ff [10]++tt [11]) (Ext _) mixed (by kernel_rfl) (Ext.drew _) ?_
  refine jE 1 rfl<|dl rfl hb1 rfl<|jE 1 rfl ?_
  refine WD.q rfl (fun _ hS=>r_idx Fo.h rfl rfl rfl (by first|omega|(simp;done)|(simp;omega))) ?_
  refine WD.q rfl (fun _ hS=>r_loadAgg Fo.h rfl hS hA1 (hn:=l1)) ?_
  refine jE 1 rfl<|dl rfl hb2 rfl<|jE 1 rfl ?_
  refine WD.q rfl (fun _ hS=>r_idx Fo.h rfl rfl rfl (by first|omega|(simp;done)|(simp;omega))) ?_
  refine WD.q rfl (fun _ hS=>r_loadAgg Fo.h rfl hS hA2 (hn:=l2)) ?_
  refine LL.cd rfl (hks _ (ak qi) _ _ _ _ _ _ (hNK.mem _ (ak qi)) (by have:=an (ak qi);omega) (by have:=an (ak (show i<ks'.length by omega));omega) (hR1.mono (Ext.drew _)) (hR2.mono (Ext.drew _))) ?_
  rintro v3 w3 ⟨bb,rfl,qLb,e3⟩
  refine⟨((Evo.drew _).then e3),?_⟩
  rcases Bool.eq_false_or_eq_true bb with q|q
  ·subst q
   refine jE 1 rfl<|WD.nil<|jA 2 rfl<|jA 1 rfl<|ai rfl rfl rfl<|jC 2 rfl ?_
   exact⟨i+1,sb,sb,⟨qi,(((hE.then (Ext.drew _)).then e3))⟩,by omega⟩
  ·subst q
   refine jE 1 rfl<|WD.nil<|jA 5 rfl<|WC.ret ?_
   replace he:=((he.then hE).then (Ext.drew _)).then e3
   exact fin1 rfl ⟨_,rfl,fun e=>qLb (fq ((qLo e).2.2.2.2.1 trivial) qi),he⟩
 ·refine jA 2 rfl<|lF rfl rfl<|WL.nil<|jA 2 rfl<|WC.exit<|jA 4 rfl<|WC.ret ?_
  replace he:=he.then hE
  exact fin1 rfl ⟨_,rfl,fun _=>rfl,he⟩
theorem ky{n:Nat}{t:List UInt8}{ks:List V}{o:Int}(hks:∀x∈ks,bp x){A B:Nat→Prop}{k':Int}{n':Nat}{t':List UInt8}{ks' d':List V}{o':Int}{cx cy:List Value}{w:World}(hNK:fv ks)(hv:ad ks≤1000000000)(hv2:ad ks'≤1000000000)(hx:ag A w (.mk 22 n t ks o []) cx)(hy:ag B w (.mk k' n' t' ks' o' d') cy)(h:k'=22)(h1:ks.length=ks'.length)(h2:d'.length=0):
  Does TP 177 [.agg cx.toArray,.agg cy.toArray] w fun r w'=>∃b,r= .bool b∧(av (.mk 22 n t ks o []) (.mk k' n' t' ks' o' d')→b=true)∧Ext w w':=by
 have qLo:=fun h:av (.mk 22 n t ks o []) (.mk k' n' t' ks' o' d')=>h.kids (by omega)
 simp only[V.kind,V.kids,V.desc]at qLo
 have nkl:=ae ks
 have nkl2:=ae ks'
 obtain⟨pk,ck,pd,cd,rfl,_,_,hK,_⟩:=hx.openV
 obtain⟨pk',ck',pd',cd',rfl,_,_,hK',_⟩:=hy.openV
 refine do1 Tryz.func177 ?_
 have he:Evo (fun _=>True) w w:=Evo.refl w
 refine jA 2 rfl ?_
 have hs1:=he.size
 refine bx rfl ?_
 rintro _ w1 ⟨rfl,hb1,e1⟩
 replace he:=he.then e1
 have hs2:=he.size
 have hx2b1:=hb1.lt
 refine bx rfl ?_
 rintro _ w2 ⟨rfl,hb2,e2⟩
 refine jC 2 rfl<|jA 4 rfl ?_
 replace hb1:=hb1.mono e2
 refine ld rfl hb1 rfl<|jC 3 rfl<|LL.lg rfl rfl rfl hb1 rfl<|jC 3 rfl<|jA 2 rfl ?_
 replace hK:=(hK.mono e1).mono e2
 replace hK':=(hK'.mono e1).mono e2
 refine WC.seq<|WC.seq<|WC.regionD (tt [0,1,2,3,4,5,6,7,8,9,10,11,12,13,14,15,16,17,18,19,20,21,22,23,24,25,26,27,28,29,30,31,32,33,34,35,36]++ff [37]++tt [38,39,40]) (Ext _) mixed (by kernel_rfl) (Ext.drew _) ?_
 refine jE 1 rfl<|dl rfl hb1 rfl<|jE 1 rfl<|dl rfl hb2 rfl ?_
 refine WD.q rfl (fun _ hS=>r_cmp (r_neq rfl rfl) (bneF (by(omega)))) ?_
 refine jE 2 rfl<|bl rfl rfl rfl hb1 rfl<|jE 2 rfl<|bl rfl rfl rfl hb2 rfl<|jE 1 rfl ?_
 refine WD.qg rfl rfl rfl rfl (fun _ hS=>r_cmp (r_neq rfl rfl) (bneF (by(omega)))) ?_
 refine jE 3 rfl<|bl rfl rfl rfl hb1 rfl<|jE 2 rfl<|bl rfl rfl rfl hb2 rfl<|jE 1 rfl ?_
 refine WD.qg rfl rfl rfl rfl (fun _ hS=>r_cmp (r_neq rfl rfl) (bneF (by(simp;omega)))) ?_
 refine jE 3 rfl<|bl rfl rfl rfl hb1 rfl<|jE 1 rfl ?_
 refine WD.qg rfl rfl rfl rfl (fun _ hS=>r_cmp (r_eql rfl rfl) (beqF (by(decide)))) ?_
 refine jE 9 rfl ?_
 refine WD.lsk rfl ((Evo.drew _)) rfl rfl rfl rfl rfl ?_
 refine jE 3 rfl<|WD.nil<|jA 2 rfl<|jA 4 rfl ?_
 replace hb1:=hb1.mono (Ext.drew _)
 refine ld rfl hb1 rfl<|jC 2 rfl<|jA 2 rfl<|jA 6 rfl ?_
 replace hK:=hK.mono (Ext.drew _)
 replace hK':=hK'.mono (Ext.drew _)
 replace hb2:=hb2.mono (Ext.drew _)
 replace he:=(he.then e2).then (Ext.drew _)
 refine WC.loop2 (ι:=Nat) [(2,_),(3,_),(4,_)] (fun i=>[(6,.int .i64 ((2 * i:Nat):Int))]) (fun i wi=>2 * i≤ks.length+1∧Ext w2.drew wi) (fun i=>ks.length+2-2 * i) 0 sb sb (⟨Nat.zero_le _,Ext.refl _⟩) ?_
 intro i wi1 hh;obtain⟨ni,hE⟩:=hh
 rcases Nat.lt_or_ge (2 * i+1) ks.length with qi|qi
 ·refine jA 4 rfl<|ai rfl rfl rfl<|jC 1 rfl ?_
  replace hb1:=hb1.mono hE
  refine ld rfl hb1 rfl<|jC 1 rfl<|lT rfl rfl<|WL.nil<|jA 2 rfl<|jA 12 rfl ?_
  have hT:=cq.mk hE
  replace hK:=hK.mono hE
  replace hK':=hK'.mono hE
  replace hb2:=hb2.mono hE
  replace he:=he.then hE
  refine WC.loop2 (ι:=(Nat×Bool)) [(2,_),(3,_),(4,_),(6,_)] (fun j=>[(7,.bool j.2),(8,.int .i64 ((2 * j.1:Nat):Int))]) (fun j wi=>(∀j',j'<j.1→2 * j'+1<ks'.length→same (aq ks (2 * i)) (aq ks' (2 * j'))=true→av (aq ks (2 * i+1)) (aq ks' (2 * j'+1))→j.2=true)∧2 * j.1≤ks'.length+1∧Ext wi1 wi) (fun j=>ks'.length+2-2 * j.1) (0,false) sb sb (⟨fun j' h=>absurd h (by omega),Nat.zero_le _,Ext.refl _⟩) ?_
  intro j wi2 hh;obtain⟨qF,nj,hE⟩:=hh
  obtain⟨j,f⟩:=j
  dsimp only at qF nj
  rcases Nat.lt_or_ge (2 * j+1) ks'.length with qj|qj
  ·cases f
   rotate_left
   ·refine jA 4 rfl<|ai rfl rfl rfl<|jC 1 rfl ?_
    replace hb2:=hb2.mono hE
    refine ld rfl hb2 rfl<|jC 1 rfl<|lT rfl rfl<|WL.nil<|jA 2 rfl<|jA 2 rfl ?_
    replace hK:=hK.mono hE
    replace hK':=hK'.mono hE
    replace hb1:=hb1.mono hE
    replace hT:=hT.mono hE
    refine WC.regionD (tt [0,1,2,3,4,5,6,7,8,9,10,11]++ff [12]++tt [13,14,15,16,17,18,19,20,21,22,23,24,25]++ff [26]++tt [27,28,29]) (Ext _) mixed (by kernel_rfl) (Ext.drew _) ?_
    refine jE 12 rfl ?_
    refine WD.lsk rfl ((Evo.drew _)) rfl rfl rfl rfl rfl ?_
    refine jE 13 rfl ?_
    refine WD.lsk rfl ((Evo.drew _)) rfl rfl rfl rfl rfl ?_
    refine jE 3 rfl<|WD.nil<|jA 2 rfl<|ai rfl rfl rfl<|jC 2 rfl ?_
    exact⟨(j+1,true),sb,sb,⟨fun _ _ _ _ _=>rfl,by show 2 * (j+1)≤_;omega,((hE.then (Ext.drew _)))⟩,(by show _+2-2 * (j+1)<_+2-2 * j;omega)⟩
   replace hK:=hK.mono hE
   ·obtain⟨b1,o1,c1,rfl,_,hA1,l1,hR1⟩:=hK.kid (i:=2 * i) (by omega)
    obtain⟨c3,_,hA3,l3,hR3⟩:=hK.kidP (i:=2 * i+1) qi
    replace hK':=hK'.mono hE
    obtain⟨b2,o2,c2,rfl,_,hA2,l2,hR2⟩:=hK'.kid (i:=2 * j) (by omega)
    obtain⟨c4,_,hA4,l4,hR4⟩:=hK'.kidP (i:=2 * j+1) qj
    have nv1:=an (ak (show 2 * i<ks.length by omega))
    have nv3:=an (ak qi)
    have nv4:=an (ak qj)
    rcases Bool.eq_false_or_eq_true (same (aq ks (2 * i)) (aq ks' (2 * j)))with qs|qs
    ·refine jA 4 rfl<|ai rfl rfl rfl<|jC 1 rfl ?_
     replace hb2:=hb2.mono hE
     refine ld rfl hb2 rfl<|jC 1 rfl<|lT rfl rfl<|WL.nil<|jA 2 rfl<|jA 2 rfl ?_
     replace hb1:=hb1.mono hE
     replace hT:=hT.mono hE
     refine WC.regionD (tt [0,1,2,3,4,5,6,7,8,9,10,11]++ff [12]++tt [13,14,15,16,17,18,19,20,21,22,23,24,25]++ff [26]++tt [27,28,29]) (Ext _) mixed (by kernel_rfl) (Ext.drew _) ?_
     refine jE 3 rfl<|bl rfl rfl rfl hb1 rfl<|jE 1 rfl ?_
     refine WD.qg rfl rfl rfl rfl (fun _ hS=>r_idx Fo.h rfl rfl rfl (by first|omega|(simp;done)|(simp;omega))) ?_
     refine WD.qg rfl rfl rfl rfl (fun _ hS=>r_loadAgg Fo.h rfl hS hA1 (hn:=l1)) ?_
     refine jE 1 rfl<|bl rfl rfl rfl hb2 rfl<|jE 1 rfl ?_
     refine WD.qg rfl rfl rfl rfl (fun _ hS=>r_idx Fo.h rfl rfl rfl (by first|omega|(simp;done)|(simp;omega))) ?_
     refine WD.qg rfl rfl rfl rfl (fun _ hS=>r_loadAgg Fo.h rfl hS hA2 (hn:=l2)) ?_
     refine WD.lg rfl rfl rfl rfl rfl (l_do Fb.h rfl (cK qs (by omega) (hR1.mono (Ext.drew _)) (hR2.mono (Ext.drew _)))) ?_
     rintro v3 w3 ⟨rfl,e3⟩
     refine⟨((Evo.drew _).then e3),?_⟩
     refine jE 2 rfl<|bl rfl rfl rfl hb1 rfl<|jE 1 rfl ?_
     refine WD.qg rfl rfl rfl rfl (fun _ hS=>r_addi (c:=((2 * i+1:Nat):Int)) rfl rfl (by omega) (by omega) (by omega)) ?_
     refine WD.qg rfl rfl rfl rfl (fun _ hS=>r_idx Fo.h rfl rfl rfl (by first|omega|(simp;done)|(simp;omega))) ?_
     refine WD.qg rfl rfl rfl rfl (fun _ hS=>r_loadAgg Fo.h rfl hS hA3 (hn:=l3)) ?_
     refine jE 1 rfl<|bl rfl rfl rfl hb2 rfl<|jE 1 rfl ?_
     refine WD.qg rfl rfl rfl rfl (fun _ hS=>r_addi (c:=((2 * j+1:Nat):Int)) rfl rfl (by omega) (by omega) (by omega)) ?_
     refine WD.qg rfl rfl rfl rfl (fun _ hS=>r_idx Fo.h rfl rfl rfl (by first|omega|(simp;done)|(simp;omega))) ?_
     refine WD.qg rfl rfl rfl rfl (fun _ hS=>r_loadAgg Fo.h rfl hS hA4 (hn:=l4)) ?_
     refine WD.lg rfl rfl rfl rfl rfl (l_do Fb.h rfl (hks _ (ak qi) _ _ _ _ _ _ (hNK.mem _ (ak qi)) (by omega) (by omega) ((hR3.mono (Ext.drew _)).mono e3) ((hR4.mono (Ext.drew _)).mono e3))) ?_
     rintro v4 w4 ⟨bb,rfl,qLb,e4⟩
     refine⟨(((Evo.drew _).then e3).then e4),?_⟩
     refine jE 3 rfl<|WD.nil<|jA 2 rfl<|ai rfl rfl rfl<|jC 2 rfl ?_
     exact⟨(j+1,bb),sb,sb,⟨fun j' h1 h2 h3 h4=>(by rcases Nat.lt_or_ge j' j with h|h;exact absurd (qF j' h h2 h3 h4) (by decide);exact qLb ((show j'=j by omega)▸h4)),by show 2 * (j+1)≤_;omega,((((hE.then (Ext.drew _)).then e3).then e4))⟩,(by show _+2-2 * (j+1)<_+2-2 * j;omega)⟩
    ·refine jA 4 rfl<|ai rfl rfl rfl<|jC 1 rfl ?_
     replace hb2:=hb2.mono hE
     refine ld rfl hb2 rfl<|jC 1 rfl<|lT rfl rfl<|WL.nil<|jA 2 rfl<|jA 2 rfl ?_
     replace hb1:=hb1.mono hE
     replace hT:=hT.mono hE
     refine WC.regionD (tt [0,1,2,3,4,5,6,7,8,9,10,11]++ff [12]++tt [13,14,15,16,17,18,19,20,21,22,23,24,25]++ff [26]++tt [27,28,29]) (Ext _) mixed (by kernel_rfl) (Ext.drew _) ?_
     refine jE 3 rfl<|bl rfl rfl rfl hb1 rfl<|jE 1 rfl ?_
     refine WD.qg rfl rfl rfl rfl (fun _ hS=>r_idx Fo.h rfl rfl rfl (by first|omega|(simp;done)|(simp;omega))) ?_
     refine WD.qg rfl rfl rfl rfl (fun _ hS=>r_loadAgg Fo.h rfl hS hA1 (hn:=l1)) ?_
     refine jE 1 rfl<|bl rfl rfl rfl hb2 rfl<|jE 1 rfl ?_
     refine WD.qg rfl rfl rfl rfl (fun _ hS=>r_idx Fo.h rfl rfl rfl (by first|omega|(simp;done)|(simp;omega))) ?_
     refine WD.qg rfl rfl rfl rfl (fun _ hS=>r_loadAgg Fo.h rfl hS hA2 (hn:=l2)) ?_
     refine WD.lg rfl rfl rfl rfl rfl (l_do Fb.h rfl (eB qs (by omega) (hR1.mono (Ext.drew _)) (hR2.mono (Ext.drew _)))) ?_
     rintro v3 w3 ⟨rfl,e3⟩
     refine⟨((Evo.drew _).then e3),?_⟩
     refine jE 13 rfl ?_
     refine WD.lsk rfl (((Evo.drew _).then e3)) rfl rfl rfl rfl rfl ?_
     refine jE 3 rfl<|WD.nil<|jA 2 rfl<|ai rfl rfl rfl<|jC 2 rfl ?_
     exact⟨(j+1,false),sb,sb,⟨fun j' h1 h2 h3 h4=>(by rcases Nat.lt_or_ge j' j with h|h;exact qF j' h h2 h3 h4;rw[show j'=j by omega,qs]at h3;exact absurd h3 (by decide)),by show 2 * (j+1)≤_;omega,(((hE.then (Ext.drew _)).then e3))⟩,(by show _+2-2 * (j+1)<_+2-2 * j;omega)⟩
  ·cases f
   ·refine jA 4 rfl<|ai rfl rfl rfl<|jC 1 rfl ?_
    replace hb2:=hb2.mono hE
    refine ld rfl hb2 rfl<|jC 1 rfl<|lF rfl rfl<|WL.nil<|jA 1 rfl<|WC.exit<|jA 10 rfl<|WC.ret ?_
    replace he:=he.then hE
    exact fin1 rfl ⟨_,rfl,fun e=>(by obtain⟨j',h1,h2,h3⟩:=eW ((qLo e).2.2.2.2.2 trivial) qi;exact qF j' (by omega) h1 h2 h3),he⟩
   ·refine jA 4 rfl<|ai rfl rfl rfl<|jC 1 rfl ?_
    replace hb2:=hb2.mono hE
    refine ld rfl hb2 rfl<|jC 1 rfl<|lF rfl rfl<|WL.nil<|jA 1 rfl<|WC.exit<|jA 7 rfl<|jA 2 rfl<|ai rfl rfl rfl<|jC 2 rfl ?_
    replace hT:=hT.mono hE
    exact⟨(i+1),sb,sb,⟨by show 2 * (i+1)≤_;omega,hT.evo⟩,(by show _+2-2 * (i+1)<_+2-2 * i;omega)⟩
 ·refine jA 4 rfl<|ai rfl rfl rfl<|jC 1 rfl ?_
  replace hb1:=hb1.mono hE
  refine ld rfl hb1 rfl<|jC 1 rfl<|lF rfl rfl<|WL.nil<|jA 1 rfl<|WC.exit<|jA 4 rfl<|WC.ret ?_
  replace he:=he.then hE
  exact fin1 rfl ⟨_,rfl,fun _=>rfl,he⟩
theorem nZ{k:Int}{n:Nat}{t:List UInt8}{ks:List V}{o:Int}{d:List V}(hks:∀x∈ks,bp x):bp (.mk k n t ks o d):=by
 intro A B y cx cy w hN hv hv2 hx hy
 rcases Decidable.em (k=21∨k=22)with q|q
 ·rw[ND]at hN
  obtain⟨k',n',t',ks',o',d'⟩:=y
  obtain⟨rfl,hNK⟩:=hN
  replace hNK:=hNK q
  rw[ah]at hv hv2
  rcases q with rfl|rfl
  ·rcases Decidable.em (k'=21)with h|h
   ·rcases Decidable.em (ks.length=ks'.length)with h1|h1
    ·rcases Decidable.em (d'.length=0)with h2|h2
     ·exact iL hks hNK (by omega) (by omega) hx hy h h1 h2
     ·exact ly hks hNK (by omega) (by omega) hx hy h h1 h2
    ·exact mQ hks hNK (by omega) (by omega) hx hy h h1
   ·exact lr hks hNK (by omega) (by omega) hx hy h
  ·rcases Decidable.em (k'=22)with h|h
   ·rcases Decidable.em (ks.length=ks'.length)with h1|h1
    ·rcases Decidable.em (d'.length=0)with h2|h2
     ·exact ky hks hNK (by omega) (by omega) hx hy h h1 h2
     ·exact lz hks hNK (by omega) (by omega) hx hy h h1 h2
    ·exact kT hks hNK (by omega) (by omega) hx hy h h1
   ·exact lx hks hNK (by omega) (by omega) hx hy h
 ·obtain⟨x0,x1,x2,x3,x4,x5,rfl⟩:=hx.six
  obtain⟨pk,ck,pd,cd,hxe,_⟩:=hx.openV
  simp only[List.cons.injEq,and_true]at hxe
  obtain⟨rfl,rfl,rfl,rfl,rfl,rfl⟩:=hxe
  obtain⟨y0,y1,y2,y3,y4,y5,rfl⟩:=hy.six
  refine do1 Tryz.func177 ?_
  have he:Evo (fun _=>True) w w:=Evo.refl w
  refine jA 2 rfl ?_
  have hs1:=he.size
  refine bx rfl ?_
  rintro _ w1 ⟨rfl,hb1,e1⟩
  replace he:=he.then e1
  have hs2:=he.size
  have hx2b1:=hb1.lt
  refine bx rfl ?_
  rintro _ w2 ⟨rfl,hb2,e2⟩
  refine jD 6 rfl ?_
  replace hb1:=hb1.mono e2
  refine ld rfl hb1 rfl ?_
  refine WL.q rfl (r_cmp (r_neq rfl rfl) (bneT (by(omega)))) ?_
  refine jC 2 rfl<|lg rfl rfl rfl hb1 rfl ?_
  refine WL.qg rfl rfl rfl rfl (r_cmp (r_neq rfl rfl) (bneT (by(omega)))) ?_
  refine jD 5 rfl<|la rfl hb1<|la rfl hb2 ?_
  replace hx:=(hx.mono e1).mono e2
  replace hy:=(hy.mono e1).mono e2
  refine cl rfl (ba hv hx hy) ?_
  rintro v3 w3 ⟨rfl,e3⟩
  refine jC 2 rfl<|WC.ret ?_
  replace he:=(he.then e2).then e3
  exact fin1 rfl ⟨_,rfl,fun h=>h.same (fun e=>q (.inl e)) (fun e=>q (.inr e)),he⟩
mutual
theorem mN:∀x:V,bp x
 | .mk k n t ks o d=>nZ (jV ks)
theorem jV:∀l:List V,∀x∈l,bp x
 |[],x,hx=>by cases hx
 |a::r,x,hx=>by
  rcases List.mem_cons.1 hx with e|hx
  ·exact e▸mN a
  ·exact jV r x hx
end
end Go.Proofs.LL
