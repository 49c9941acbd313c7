/- Contracts of functions and own laws. Conditions: those that each theorem states. -/
import Derived.Test.YtdgbmbjkbmpcbaaGreatDoorV48
set_option linter.all false
set_option autoImplicit true
set_option relaxedAutoImplicit true
set_option maxRecDepth 20000
namespace Go.Proofs.LL
open Go Go.Proofs Go.RowKit
set_option maxHeartbeats 4000000
attribute [local irreducible] ar WL WC cq WT WX
theorem AS{A:Prop}(h:A:=by
 replace hK:=(hK.m e1).m e2
 replace hK':=(hK'.m e1).m e2
 refine WC.seq<|WC.seq<|WC.regionD (tt [0,1,2,3,4,5,6,7,8,9,10,11,12,13,14,15,16,17,18,19,20,21,22,23,24,25,26,27,28,29,30,31,32,33,34,35,36]++ff [37]++tt [38,39,40]) (ay _) mixed (by kernel_rfl) Xd<|jE 1 rfl<|dl rfl hb1 rfl<|jE 1 rfl<|dl rfl hb2 rfl<|He (fun _ hS=>ae (bn rfl rfl) (fI (by(omega))))<|jE 2 rfl<|bl rfl rfl rfl hb1 rfl<|jE 2 rfl<|bl rfl rfl rfl hb2 rfl<|jE 1 rfl<|Hf rfl rfl (fun _ hS=>ae (bn rfl rfl) (fI (by(omega))))<|jE 3 rfl<|bl rfl rfl rfl hb1 rfl<|jE 2 rfl<|bl rfl rfl rfl hb2 rfl<|jE 1 rfl<|Hf rfl rfl (fun _ hS=>ae (bn rfl rfl) (kQ (by(simp;omega))))<|jE 15 rfl<|WD.lsk rfl (Vd) rfl rfl rfl rfl rfl<|jE 3 rfl<|WD.nil<|jA 5 rfl<|WC.ret ?_
 replace he:=(he.t e2).t Xd
 exact aw rfl ⟨_,rfl,fun e=>absurd (congrArg List.length (qLo e).2.2.2.1) h2,he⟩):A:=h
theorem AT{A:Prop}(h:A:=by
 replace hK:=(hK.m e1).m e2
 replace hK':=(hK'.m e1).m e2
 refine WC.seq<|WC.seq<|WC.regionD (tt [0,1,2,3,4,5,6,7,8,9,10,11,12,13,14,15,16,17,18,19,20,21,22,23,24,25,26,27,28,29,30,31,32,33,34,35,36]++ff [37]++tt [38,39,40]) (ay _) mixed (by kernel_rfl) Xd<|jE 1 rfl<|dl rfl hb1 rfl<|jE 1 rfl<|dl rfl hb2 rfl<|He (fun _ hS=>ae (bn rfl rfl) (fI (by(omega))))<|jE 2 rfl<|bl rfl rfl rfl hb1 rfl<|jE 2 rfl<|bl rfl rfl rfl hb2 rfl<|jE 1 rfl<|Hf rfl rfl (fun _ hS=>ae (bn rfl rfl) (kQ (by(omega))))<|jE 24 rfl<|WD.lsk rfl (Vd) rfl rfl rfl rfl rfl<|jE 3 rfl<|WD.nil<|jA 5 rfl<|WC.ret ?_
 replace he:=(he.t e2).t Xd
 exact aw rfl ⟨_,rfl,fun e=>absurd (qLo e).2.1 h1,he⟩):A:=h
theorem AU{A:Prop}(h:A:=by
 replace hK:=(hK.m e1).m e2
 replace hK':=(hK'.m e1).m e2
 refine WC.seq<|WC.seq<|WC.regionD (tt [0,1,2,3,4,5,6,7,8,9,10,11,12,13,14,15,16,17,18,19,20,21,22,23,24,25,26,27,28,29,30,31,32,33,34,35,36]++ff [37]++tt [38,39,40]) (ay _) mixed (by kernel_rfl) Xd<|jE 1 rfl<|dl rfl hb1 rfl<|jE 1 rfl<|dl rfl hb2 rfl<|He (fun _ hS=>ae (bn rfl rfl) (kQ ((Ne.symm h))))<|jE 32 rfl<|WD.lsk rfl (Vd) rfl rfl rfl rfl rfl<|jE 3 rfl<|WD.nil<|jA 5 rfl<|WC.ret ?_
 replace he:=(he.t e2).t Xd
 exact aw rfl ⟨_,rfl,fun e=>absurd (qLo e).1 h,he⟩):A:=h
mutual
def ND:V→Prop
 | .mk k _ _ ks _ d=>d=[]∧(k=21∨k=22→ou ks)
def ou:List V→Prop
 |[]=>True
 |x::r=>ND x∧ou r
end
theorem ou.mem:∀ {l:List V},ou l→∀x∈l,ND x
 |[],_,x,hx=>by cases hx
 |a::r,h,x,hx=>by
  rw[ou]at h
  rcases List.mem_cons.1 hx with rfl|hx
  ·exact h.1
  ·exact ou.mem h.2 x hx
theorem ou.of:∀ {l:List V},(∀x∈l,ND x)→ou l
 |[],_=>by rw[ou];trivial
 |a::r,h=>by rw[ou];exact⟨h a (by simp),ou.of fun x hx=>h x (by simp[hx])⟩
theorem nM:∀ {ks l:List V} {i:Nat},ib ks l→i<ks.length→bG (bA ks i) (bA l i)
 |[],_,i,_,hi=>absurd hi (by simp)
 |a::r,l,0,h,_=>by
  rw[ib]at h
  obtain⟨b,s,rfl,h1,_⟩:=h
  exact h1
 |a::r,l,i+1,h,hi=>by
  rw[ib]at h
  obtain⟨b,s,rfl,_,h2⟩:=h
  exact nM (i:=i) h2 (by simpa using hi)
theorem nO:∀ {ks l:List V} {i:Nat},eD ks l→2 * i+1<ks.length→∃j,2 * j+1<l.length∧same (bA ks (2 * i)) (bA l (2 * j))=true∧bG (bA ks (2 * i+1)) (bA l (2 * j+1))
 |[],_,i,_,hi=>absurd hi (by simp)
 |[a],_,i,_,hi=>absurd hi (by simp)
 |a::v::r,l,0,h,_=>by
  rw[eD]at h
  obtain⟨⟨j,x,y,h1,h2,h3,h4⟩,_⟩:=h
  refine⟨j,(List.getElem?_eq_some_iff.1 h2).1,?_,?_⟩
  ·rw[bA,bA,h1];exact h3
  ·rw[bA,bA,h2];exact h4
 |a::v::r,l,i+1,h,hi=>by
  rw[eD]at h
  exact nO (i:=i) h.2 (by simp only[List.length_cons]at hi;omega)
def fA(x:V):Prop:=∀(A B:Nat→Prop) (y:V) (cx cy:List Value) (w:World),ND x→aE x≤1000000000→aE y≤1000000000→aC A w x cx→aC B w y cy→
 ah TP 177 [.agg cx.toArray,.agg cy.toArray] w fun r w'=>∃b,r= .bool b∧(bG x y→b=true)∧ay w w'
theorem bG.kids{k:Int}{o:Int}(h:bG (.mk k n t ks o d) y)(hk:k=21∨k=22):y.kind=k∧ks.length=y.kids.length∧d=[]∧y.desc=[]∧(k=21→ib ks y.kids)∧(k=22→eD ks y.kids):=by
 rw[bG]at h
 rcases h with⟨h1,h2,_⟩|⟨rfl,h2,h3,h4,h5,h6⟩|⟨rfl,h2,h3,h4,h5,h6⟩
 ·omega
 ·exact⟨h2,h3,h4,h5,fun _=>h6,fun h=>by omega⟩
 ·exact⟨h2,h3,h4,h5,fun h=>by omega,fun _=>h6⟩
theorem zg{ks:List V}{o:Int}(hks:∀x∈ks,fA x){k':Int}{o':Int}{cx:List Value}(hNK:ou ks)(hv:aj ks≤1000000000)(hv2:aj ks'≤1000000000)(hx:aC A w (.mk 21 n t ks o []) cx)(hy:aC B w (.mk k' n' t' ks' o' d') cy)(h:k'≠21):
  ah TP 177 [.agg cx.toArray,.agg cy.toArray] w fun r w'=>∃b,r= .bool b∧(bG (.mk 21 n t ks o []) (.mk k' n' t' ks' o' d')→b=true)∧ay w w':=by
 have qLo:=fun h:bG (.mk 21 n t ks o []) (.mk k' n' t' ks' o' d')=>h.kids (by omega)
 simp only[V.kind,V.kids,V.desc]at qLo
 have nkl:=av ks
 have nkl2:=av ks'
 obtain⟨pk,ck,pd,cd,rfl,_,_,hK,_⟩:=hx.openV
 obtain⟨pk',ck',pd',cd',rfl,_,_,hK',_⟩:=hy.openV
 refine aR Tryz.func177 ?_
 have he:=XI w
 refine jA 2 rfl ?_
 have:=he.s
 refine Hb rfl fun w1 hb1 e1=>?_
 replace he:=he.t e1
 have:=he.s
 have:=hb1.lt
 refine Hb rfl fun w2 hb2 e2=>?_
 refine jD 6 rfl ?_
 replace hb1:=hb1.m e2
 refine ld rfl hb1 rfl<|jD 9 rfl ?_
 exact AU
theorem zh{ks:List V}{o:Int}(hks:∀x∈ks,fA x){k':Int}{o':Int}{cx:List Value}(hNK:ou ks)(hv:aj ks≤1000000000)(hv2:aj ks'≤1000000000)(hx:aC A w (.mk 21 n t ks o []) cx)(hy:aC B w (.mk k' n' t' ks' o' d') cy)(h:k'=21)(h1:ks.length≠ks'.length):
  ah TP 177 [.agg cx.toArray,.agg cy.toArray] w fun r w'=>∃b,r= .bool b∧(bG (.mk 21 n t ks o []) (.mk k' n' t' ks' o' d')→b=true)∧ay w w':=by
 have qLo:=fun h:bG (.mk 21 n t ks o []) (.mk k' n' t' ks' o' d')=>h.kids (by omega)
 simp only[V.kind,V.kids,V.desc]at qLo
 have nkl:=av ks
 have nkl2:=av ks'
 obtain⟨pk,ck,pd,cd,rfl,_,_,hK,_⟩:=hx.openV
 obtain⟨pk',ck',pd',cd',rfl,_,_,hK',_⟩:=hy.openV
 refine aR Tryz.func177 ?_
 have he:=XI w
 refine jA 2 rfl ?_
 have:=he.s
 refine Hb rfl fun w1 hb1 e1=>?_
 replace he:=he.t e1
 have:=he.s
 have:=hb1.lt
 refine Hb rfl fun w2 hb2 e2=>?_
 refine jD 6 rfl ?_
 replace hb1:=hb1.m e2
 refine ld rfl hb1 rfl<|jD 9 rfl ?_
 exact AT
theorem zf{ks:List V}{o:Int}(hks:∀x∈ks,fA x){k':Int}{o':Int}{cx:List Value}(hNK:ou ks)(hv:aj ks≤1000000000)(hv2:aj ks'≤1000000000)(hx:aC A w (.mk 21 n t ks o []) cx)(hy:aC B w (.mk k' n' t' ks' o' d') cy)(h:k'=21)(h1:ks.length=ks'.length)(h2:d'.length≠0):
  ah TP 177 [.agg cx.toArray,.agg cy.toArray] w fun r w'=>∃b,r= .bool b∧(bG (.mk 21 n t ks o []) (.mk k' n' t' ks' o' d')→b=true)∧ay w w':=by
 have qLo:=fun h:bG (.mk 21 n t ks o []) (.mk k' n' t' ks' o' d')=>h.kids (by omega)
 simp only[V.kind,V.kids,V.desc]at qLo
 have nkl:=av ks
 have nkl2:=av ks'
 obtain⟨pk,ck,pd,cd,rfl,_,_,hK,_⟩:=hx.openV
 obtain⟨pk',ck',pd',cd',rfl,_,_,hK',_⟩:=hy.openV
 refine aR Tryz.func177 ?_
 have he:=XI w
 refine jA 2 rfl ?_
 have:=he.s
 refine Hb rfl fun w1 hb1 e1=>?_
 replace he:=he.t e1
 have:=he.s
 have:=hb1.lt
 refine Hb rfl fun w2 hb2 e2=>?_
 refine jD 6 rfl ?_
 replace hb1:=hb1.m e2
 refine ld rfl hb1 rfl<|jD 9 rfl ?_
 exact AS
theorem zj{ks:List V}{o:Int}(hks:∀x∈ks,fA x){k':Int}{o':Int}{cx:List Value}(hNK:ou ks)(hv:aj ks≤1000000000)(hv2:aj ks'≤1000000000)(hx:aC A w (.mk 22 n t ks o []) cx)(hy:aC B w (.mk k' n' t' ks' o' d') cy)(h:k'≠22):
  ah TP 177 [.agg cx.toArray,.agg cy.toArray] w fun r w'=>∃b,r= .bool b∧(bG (.mk 22 n t ks o []) (.mk k' n' t' ks' o' d')→b=true)∧ay w w':=by
 have qLo:=fun h:bG (.mk 22 n t ks o []) (.mk k' n' t' ks' o' d')=>h.kids (by omega)
 simp only[V.kind,V.kids,V.desc]at qLo
 have nkl:=av ks
 have nkl2:=av ks'
 obtain⟨pk,ck,pd,cd,rfl,_,_,hK,_⟩:=hx.openV
 obtain⟨pk',ck',pd',cd',rfl,_,_,hK',_⟩:=hy.openV
 refine aR Tryz.func177 ?_
 have he:=XI w
 refine jA 2 rfl ?_
 have:=he.s
 refine Hb rfl fun w1 hb1 e1=>?_
 replace he:=he.t e1
 have:=he.s
 have:=hb1.lt
 refine Hb rfl fun w2 hb2 e2=>?_
 refine jD 6 rfl ?_
 replace hb1:=hb1.m e2
 refine ld rfl hb1 rfl<|jC 3 rfl<|lg rfl rfl rfl hb1 rfl<|jD 5 rfl ?_
 exact AU
theorem zl{ks:List V}{o:Int}(hks:∀x∈ks,fA x){k':Int}{o':Int}{cx:List Value}(hNK:ou ks)(hv:aj ks≤1000000000)(hv2:aj ks'≤1000000000)(hx:aC A w (.mk 22 n t ks o []) cx)(hy:aC B w (.mk k' n' t' ks' o' d') cy)(h:k'=22)(h1:ks.length≠ks'.length):
  ah TP 177 [.agg cx.toArray,.agg cy.toArray] w fun r w'=>∃b,r= .bool b∧(bG (.mk 22 n t ks o []) (.mk k' n' t' ks' o' d')→b=true)∧ay w w':=by
 have qLo:=fun h:bG (.mk 22 n t ks o []) (.mk k' n' t' ks' o' d')=>h.kids (by omega)
 simp only[V.kind,V.kids,V.desc]at qLo
 have nkl:=av ks
 have nkl2:=av ks'
 obtain⟨pk,ck,pd,cd,rfl,_,_,hK,_⟩:=hx.openV
 obtain⟨pk',ck',pd',cd',rfl,_,_,hK',_⟩:=hy.openV
 refine aR Tryz.func177 ?_
 have he:=XI w
 refine jA 2 rfl ?_
 have:=he.s
 refine Hb rfl fun w1 hb1 e1=>?_
 replace he:=he.t e1
 have:=he.s
 have:=hb1.lt
 refine Hb rfl fun w2 hb2 e2=>?_
 refine jD 6 rfl ?_
 replace hb1:=hb1.m e2
 refine ld rfl hb1 rfl<|jC 3 rfl<|lg rfl rfl rfl hb1 rfl<|jD 5 rfl ?_
 exact AT
theorem zi{ks:List V}{o:Int}(hks:∀x∈ks,fA x){k':Int}{o':Int}{cx:List Value}(hNK:ou ks)(hv:aj ks≤1000000000)(hv2:aj ks'≤1000000000)(hx:aC A w (.mk 22 n t ks o []) cx)(hy:aC B w (.mk k' n' t' ks' o' d') cy)(h:k'=22)(h1:ks.length=ks'.length)(h2:d'.length≠0):
  ah TP 177 [.agg cx.toArray,.agg cy.toArray] w fun r w'=>∃b,r= .bool b∧(bG (.mk 22 n t ks o []) (.mk k' n' t' ks' o' d')→b=true)∧ay w w':=by
 have qLo:=fun h:bG (.mk 22 n t ks o []) (.mk k' n' t' ks' o' d')=>h.kids (by omega)
 simp only[V.kind,V.kids,V.desc]at qLo
 have nkl:=av ks
 have nkl2:=av ks'
 obtain⟨pk,ck,pd,cd,rfl,_,_,hK,_⟩:=hx.openV
 obtain⟨pk',ck',pd',cd',rfl,_,_,hK',_⟩:=hy.openV
 refine aR Tryz.func177 ?_
 have he:=XI w
 refine jA 2 rfl ?_
 have:=he.s
 refine Hb rfl fun w1 hb1 e1=>?_
 replace he:=he.t e1
 have:=he.s
 have:=hb1.lt
 refine Hb rfl fun w2 hb2 e2=>?_
 refine jD 6 rfl ?_
 replace hb1:=hb1.m e2
 refine ld rfl hb1 rfl<|jC 3 rfl<|lg rfl rfl rfl hb1 rfl<|jD 5 rfl ?_
 exact AS
theorem uz{ks:List V}{o:Int}(hks:∀x∈ks,fA x){k':Int}{o':Int}{cx:List Value}(hNK:ou ks)(hv:aj ks≤1000000000)(hv2:aj ks'≤1000000000)(hx:aC A w (.mk 21 n t ks o []) cx)(hy:aC B w (.mk k' n' t' ks' o' d') cy)(h:k'=21)(h1:ks.length=ks'.length)(h2:d'.length=0):
  ah TP 177 [.agg cx.toArray,.agg cy.toArray] w fun r w'=>∃b,r= .bool b∧(bG (.mk 21 n t ks o []) (.mk k' n' t' ks' o' d')→b=true)∧ay w w':=by
 have qLo:=fun h:bG (.mk 21 n t ks o []) (.mk k' n' t' ks' o' d')=>h.kids (by omega)
 simp only[V.kind,V.kids,V.desc]at qLo
 have nkl:=av ks
 have nkl2:=av ks'
 obtain⟨pk,ck,pd,cd,rfl,_,_,hK,_⟩:=hx.openV
 obtain⟨pk',ck',pd',cd',rfl,_,_,hK',_⟩:=hy.openV
 refine aR Tryz.func177 ?_
 have he:=XI w
 refine jA 2 rfl ?_
 have:=he.s
 refine Hb rfl fun w1 hb1 e1=>?_
 replace he:=he.t e1
 have:=he.s
 have:=hb1.lt
 refine Hb rfl fun w2 hb2 e2=>?_
 refine jC 2 rfl<|jA 4 rfl ?_
 replace hb1:=hb1.m e2
 refine ld rfl hb1 rfl<|jC 7 rfl<|jA 2 rfl ?_
 replace hK:=(hK.m e1).m e2
 replace hK':=(hK'.m e1).m e2
 refine WC.seq<|WC.seq<|WC.regionD (tt [0,1,2,3,4,5,6,7,8,9,10,11,12,13,14,15,16,17,18,19,20,21,22,23,24,25,26,27,28,29,30,31,32,33,34,35,36]++ff [37]++tt [38,39,40]) (ay _) mixed (by kernel_rfl) Xd<|jE 1 rfl<|dl rfl hb1 rfl<|jE 1 rfl<|dl rfl hb2 rfl<|He (fun _ hS=>ae (bn rfl rfl) (fI (by(omega))))<|jE 2 rfl<|bl rfl rfl rfl hb1 rfl<|jE 2 rfl<|bl rfl rfl rfl hb2 rfl<|jE 1 rfl<|Hf rfl rfl (fun _ hS=>ae (bn rfl rfl) (fI (by(omega))))<|jE 3 rfl<|bl rfl rfl rfl hb1 rfl<|jE 2 rfl<|bl rfl rfl rfl hb2 rfl<|jE 1 rfl<|Hf rfl rfl (fun _ hS=>ae (bn rfl rfl) (fI (by(simp;omega))))<|jE 3 rfl<|bl rfl rfl rfl hb1 rfl<|jE 1 rfl<|Hf rfl rfl (fun _ hS=>ae (ak rfl rfl) (bk (by(decide))))<|jE 9 rfl<|WD.lsk rfl (Vd) rfl rfl rfl rfl rfl<|jE 3 rfl<|WD.nil<|jA 2 rfl<|jA 4 rfl ?_
 replace hb1:=hb1.m Xd
 refine ld rfl hb1 rfl<|jC 2 rfl<|jA 5 rfl<|ld rfl hb1 rfl<|jC 3 rfl<|jA 1 rfl ?_
 replace hK:=hK.m Xd
 replace hK':=hK'.m Xd
 replace hb2:=hb2.m Xd
 replace he:=(he.t e2).t Xd
 refine WC.loop2 (ι:=Nat) [(2,_),(3,_),(4,_),(66,_)] (fun i=>[(67,.int .i64 (i:Int))]) (fun i wi=>i≤ks.length∧ay w2.drew wi) (fun i=>ks.length-i) 0 sb sb (⟨Nat.zero_le _,ay.refl _⟩) ?_
 intro i wi1 hh;obtain⟨ni,hE⟩:=hh
 rcases Nat.lt_or_ge i ks.length with qi|qi
 replace hK:=hK.m hE
 ·obtain⟨b,o1,c1,rfl,_,hA1,l1,hR1⟩:=hK.kid qi
  replace hK':=hK'.m hE
  obtain⟨b',o2,c2,rfl,_,hA2,l2,hR2⟩:=hK'.kid (i:=i) (by omega)
  refine jA 2 rfl<|lT rfl rfl<|WL.nil<|jA 10 rfl ?_
  replace hb1:=hb1.m hE
  replace hb2:=hb2.m hE
  refine WC.seq<|WC.regionD (tt [0,1,2,3,4,5,6,7,8,9]++ff [10]++tt [11]) (ay _) mixed (by kernel_rfl) Xd<|jE 1 rfl<|dl rfl hb1 rfl<|jE 1 rfl<|He (fun _ hS=>bd Fo.h rfl rfl rfl)<|He (fun _ hS=>ad Fo.h rfl hS hA1 (hn:=l1))<|jE 1 rfl<|dl rfl hb2 rfl<|jE 1 rfl<|He (fun _ hS=>bd Fo.h rfl rfl rfl)<|He (fun _ hS=>ad Fo.h rfl hS hA2 (hn:=l2))<|LL.cd rfl (hks _ (bf qi) _ _ _ _ _ _ (hNK.mem _ (bf qi)) (by have:=bo (bf qi);omega) (by have:=bo (bf (show i<ks'.length by omega));omega) (hR1.m Xd) (hR2.m Xd)) ?_
  rintro v3 w3 ⟨bb,rfl,qLb,e3⟩
  refine⟨(Vd.t e3),?_⟩
  rcases Bool.eq_false_or_eq_true bb with q|q
  ·subst q
   refine jE 1 rfl<|WD.nil<|jA 2 rfl<|jA 1 rfl<|ai rfl rfl rfl<|jC 2 rfl ?_
   exact⟨i+1,sb,sb,⟨qi,(((hE.t Xd).t e3))⟩,by omega⟩
  ·subst q
   refine jE 1 rfl<|WD.nil<|jA 5 rfl<|WC.ret ?_
   replace he:=((he.t hE).t Xd).t e3
   exact aw rfl ⟨_,rfl,fun e=>qLb (nM ((qLo e).2.2.2.2.1 trivial) qi),he⟩
 ·refine jA 2 rfl<|lF rfl rfl<|WL.nil<|jA 2 rfl<|WC.exit<|jA 4 rfl<|WC.ret ?_
  replace he:=he.t hE
  exact aw rfl ⟨_,rfl,fun _=>rfl,he⟩
theorem xG{ks:List V}{o:Int}(hks:∀x∈ks,fA x){k':Int}{o':Int}{cx:List Value}(hNK:ou ks)(hv:aj ks≤1000000000)(hv2:aj ks'≤1000000000)(hx:aC A w (.mk 22 n t ks o []) cx)(hy:aC B w (.mk k' n' t' ks' o' d') cy)(h:k'=22)(h1:ks.length=ks'.length)(h2:d'.length=0):
  ah TP 177 [.agg cx.toArray,.agg cy.toArray] w fun r w'=>∃b,r= .bool b∧(bG (.mk 22 n t ks o []) (.mk k' n' t' ks' o' d')→b=true)∧ay w w':=by
 have qLo:=fun h:bG (.mk 22 n t ks o []) (.mk k' n' t' ks' o' d')=>h.kids (by omega)
 simp only[V.kind,V.kids,V.desc]at qLo
 have nkl:=av ks
 have nkl2:=av ks'
 obtain⟨pk,ck,pd,cd,rfl,_,_,hK,_⟩:=hx.openV
 obtain⟨pk',ck',pd',cd',rfl,_,_,hK',_⟩:=hy.openV
 refine aR Tryz.func177 ?_
 have he:=XI w
 refine jA 2 rfl ?_
 have:=he.s
 refine Hb rfl fun w1 hb1 e1=>?_
 replace he:=he.t e1
 have:=he.s
 have:=hb1.lt
 refine Hb rfl fun w2 hb2 e2=>?_
 refine jC 2 rfl<|jA 4 rfl ?_
 replace hb1:=hb1.m e2
 refine ld rfl hb1 rfl<|jC 3 rfl<|LL.lg rfl rfl rfl hb1 rfl<|jC 3 rfl<|jA 2 rfl ?_
 replace hK:=(hK.m e1).m e2
 replace hK':=(hK'.m e1).m e2
 refine WC.seq<|WC.seq<|WC.regionD (tt [0,1,2,3,4,5,6,7,8,9,10,11,12,13,14,15,16,17,18,19,20,21,22,23,24,25,26,27,28,29,30,31,32,33,34,35,36]++ff [37]++tt [38,39,40]) (ay _) mixed (by kernel_rfl) Xd<|jE 1 rfl<|dl rfl hb1 rfl<|jE 1 rfl<|dl rfl hb2 rfl<|He (fun _ hS=>ae (bn rfl rfl) (fI (by(omega))))<|jE 2 rfl<|bl rfl rfl rfl hb1 rfl<|jE 2 rfl<|bl rfl rfl rfl hb2 rfl<|jE 1 rfl<|Hf rfl rfl (fun _ hS=>ae (bn rfl rfl) (fI (by(omega))))<|jE 3 rfl<|bl rfl rfl rfl hb1 rfl<|jE 2 rfl<|bl rfl rfl rfl hb2 rfl<|jE 1 rfl<|Hf rfl rfl (fun _ hS=>ae (bn rfl rfl) (fI (by(simp;omega))))<|jE 3 rfl<|bl rfl rfl rfl hb1 rfl<|jE 1 rfl<|Hf rfl rfl (fun _ hS=>ae (ak rfl rfl) (bk (by(decide))))<|jE 9 rfl<|WD.lsk rfl (Vd) rfl rfl rfl rfl rfl<|jE 3 rfl<|WD.nil<|jA 2 rfl<|jA 4 rfl ?_
 replace hb1:=hb1.m Xd
 refine ld rfl hb1 rfl<|jC 2 rfl<|jA 2 rfl<|jA 6 rfl ?_
 replace hK:=hK.m Xd
 replace hK':=hK'.m Xd
 replace hb2:=hb2.m Xd
 replace he:=(he.t e2).t Xd
 refine WC.loop2 (ι:=Nat) [(2,_),(3,_),(4,_)] (fun i=>[(6,.int .i64 ((2 * i:Nat):Int))]) (fun i wi=>2 * i≤ks.length+1∧ay w2.drew wi) (fun i=>ks.length+2-2 * i) 0 sb sb (⟨Nat.zero_le _,ay.refl _⟩) ?_
 intro i wi1 hh;obtain⟨ni,hE⟩:=hh
 rcases Nat.lt_or_ge (2 * i+1) ks.length with qi|qi
 ·refine jA 4 rfl<|ai rfl rfl rfl<|jC 1 rfl ?_
  replace hb1:=hb1.m hE
  refine ld rfl hb1 rfl<|jC 1 rfl<|lT rfl rfl<|WL.nil<|jA 2 rfl<|jA 12 rfl ?_
  have hT:=i7.mk hE
  replace hK:=hK.m hE
  replace hK':=hK'.m hE
  replace hb2:=hb2.m hE
  replace he:=he.t hE
  refine WC.loop2 (ι:=(Nat×Bool)) [(2,_),(3,_),(4,_),(6,_)] (fun j=>[(7,.bool j.2),(8,.int .i64 ((2 * j.1:Nat):Int))]) (fun j wi=>(∀j',j'<j.1→2 * j'+1<ks'.length→same (bA ks (2 * i)) (bA ks' (2 * j'))=true→bG (bA ks (2 * i+1)) (bA ks' (2 * j'+1))→j.2=true)∧2 * j.1≤ks'.length+1∧ay wi1 wi) (fun j=>ks'.length+2-2 * j.1) (0,false) sb sb (⟨fun j' h=>absurd h (by omega),Nat.zero_le _,ay.refl _⟩) ?_
  intro j wi2 hh;obtain⟨qF,nj,hE⟩:=hh
  obtain⟨j,f⟩:=j
  dsimp only at qF nj
  rcases Nat.lt_or_ge (2 * j+1) ks'.length with qj|qj
  ·cases f
   rotate_left
   ·refine jA 4 rfl<|ai rfl rfl rfl<|jC 1 rfl ?_
    replace hb2:=hb2.m hE
    refine ld rfl hb2 rfl<|jC 1 rfl<|lT rfl rfl<|WL.nil<|jA 2 rfl<|jA 2 rfl ?_
    replace hK:=hK.m hE
    replace hK':=hK'.m hE
    replace hb1:=hb1.m hE
    replace hT:=hT.m hE
    refine WC.regionD (tt [0,1,2,3,4,5,6,7,8,9,10,11]++ff [12]++tt [13,14,15,16,17,18,19,20,21,22,23,24,25]++ff [26]++tt [27,28,29]) (ay _) mixed (by kernel_rfl) Xd<|jE 12 rfl<|WD.lsk rfl (Vd) rfl rfl rfl rfl rfl<|jE 13 rfl<|WD.lsk rfl (Vd) rfl rfl rfl rfl rfl<|jE 3 rfl<|WD.nil<|jA 2 rfl<|ai rfl rfl rfl<|jC 2 rfl ?_
    exact⟨(j+1,true),sb,sb,⟨fun _ _ _ _ _=>rfl,by show 2 * (j+1)≤_;omega,((hE.t Xd))⟩,(by show _+2-2 * (j+1)<_+2-2 * j;omega)⟩
   replace hK:=hK.m hE
   ·obtain⟨b1,o1,c1,rfl,_,hA1,l1,hR1⟩:=hK.kid (i:=2 * i) (by omega)
    obtain⟨c3,_,hA3,l3,hR3⟩:=hK.kidP (i:=2 * i+1) qi
    replace hK':=hK'.m hE
    obtain⟨b2,o2,c2,rfl,_,hA2,l2,hR2⟩:=hK'.kid (i:=2 * j) (by omega)
    obtain⟨c4,_,hA4,l4,hR4⟩:=hK'.kidP (i:=2 * j+1) qj
    have nv1:=bo (bf (show 2 * i<ks.length by omega))
    have nv3:=bo (bf qi)
    have nv4:=bo (bf qj)
    rcases Bool.eq_false_or_eq_true (same (bA ks (2 * i)) (bA ks' (2 * j)))with qs|qs
    ·refine jA 4 rfl<|ai rfl rfl rfl<|jC 1 rfl ?_
     replace hb2:=hb2.m hE
     refine ld rfl hb2 rfl<|jC 1 rfl<|lT rfl rfl<|WL.nil<|jA 2 rfl<|jA 2 rfl ?_
     replace hb1:=hb1.m hE
     replace hT:=hT.m hE
     refine WC.regionD (tt [0,1,2,3,4,5,6,7,8,9,10,11]++ff [12]++tt [13,14,15,16,17,18,19,20,21,22,23,24,25]++ff [26]++tt [27,28,29]) (ay _) mixed (by kernel_rfl) Xd<|jE 3 rfl<|bl rfl rfl rfl hb1 rfl<|jE 1 rfl<|Hf rfl rfl (fun _ hS=>bd Fo.h rfl rfl rfl)<|Hf rfl rfl (fun _ hS=>ad Fo.h rfl hS hA1 (hn:=l1))<|jE 1 rfl<|bl rfl rfl rfl hb2 rfl<|jE 1 rfl<|Hf rfl rfl (fun _ hS=>bd Fo.h rfl rfl rfl)<|Hf rfl rfl (fun _ hS=>ad Fo.h rfl hS hA2 (hn:=l2))<|WD.lg rfl rfl rfl rfl rfl (cD Fb.h rfl (i6 qs (by omega) (hR1.m Xd) (hR2.m Xd))) ?_
     rintro v3 w3 ⟨rfl,e3⟩
     refine⟨(Vd.t e3),?_⟩
     refine jE 2 rfl<|bl rfl rfl rfl hb1 rfl<|jE 1 rfl<|Hf rfl rfl (fun _ hS=>jj (c:=((2 * i+1:Nat):Int)) rfl rfl (by omega) (by omega) (by omega))<|Hf rfl rfl (fun _ hS=>bd Fo.h rfl rfl rfl)<|Hf rfl rfl (fun _ hS=>ad Fo.h rfl hS hA3 (hn:=l3))<|jE 1 rfl<|bl rfl rfl rfl hb2 rfl<|jE 1 rfl<|Hf rfl rfl (fun _ hS=>jj (c:=((2 * j+1:Nat):Int)) rfl rfl (by omega) (by omega) (by omega))<|Hf rfl rfl (fun _ hS=>bd Fo.h rfl rfl rfl)<|Hf rfl rfl (fun _ hS=>ad Fo.h rfl hS hA4 (hn:=l4))<|WD.lg rfl rfl rfl rfl rfl (cD Fb.h rfl (hks _ (bf qi) _ _ _ _ _ _ (hNK.mem _ (bf qi)) (by omega) (by omega) ((hR3.m Xd).m e3) ((hR4.m Xd).m e3))) ?_
     rintro v4 w4 ⟨bb,rfl,qLb,e4⟩
     refine⟨((Vd.t e3).t e4),?_⟩
     refine jE 3 rfl<|WD.nil<|jA 2 rfl<|ai rfl rfl rfl<|jC 2 rfl ?_
     exact⟨(j+1,bb),sb,sb,⟨fun j' h1 h2 h3 h4=>(by rcases Nat.lt_or_ge j' j with h|h;exact absurd (qF j' h h2 h3 h4) (by decide);exact qLb ((show j'=j by omega)▸h4)),by show 2 * (j+1)≤_;omega,((((hE.t Xd).t e3).t e4))⟩,(by show _+2-2 * (j+1)<_+2-2 * j;omega)⟩
    ·refine jA 4 rfl<|ai rfl rfl rfl<|jC 1 rfl ?_
     replace hb2:=hb2.m hE
     refine ld rfl hb2 rfl<|jC 1 rfl<|lT rfl rfl<|WL.nil<|jA 2 rfl<|jA 2 rfl ?_
     replace hb1:=hb1.m hE
     replace hT:=hT.m hE
     refine WC.regionD (tt [0,1,2,3,4,5,6,7,8,9,10,11]++ff [12]++tt [13,14,15,16,17,18,19,20,21,22,23,24,25]++ff [26]++tt [27,28,29]) (ay _) mixed (by kernel_rfl) Xd<|jE 3 rfl<|bl rfl rfl rfl hb1 rfl<|jE 1 rfl<|Hf rfl rfl (fun _ hS=>bd Fo.h rfl rfl rfl)<|Hf rfl rfl (fun _ hS=>ad Fo.h rfl hS hA1 (hn:=l1))<|jE 1 rfl<|bl rfl rfl rfl hb2 rfl<|jE 1 rfl<|Hf rfl rfl (fun _ hS=>bd Fo.h rfl rfl rfl)<|Hf rfl rfl (fun _ hS=>ad Fo.h rfl hS hA2 (hn:=l2))<|WD.lg rfl rfl rfl rfl rfl (cD Fb.h rfl (me qs (by omega) (hR1.m Xd) (hR2.m Xd))) ?_
     rintro v3 w3 ⟨rfl,e3⟩
     refine⟨(Vd.t e3),?_⟩
     refine jE 13 rfl<|WD.lsk rfl ((Vd.t e3)) rfl rfl rfl rfl rfl<|jE 3 rfl<|WD.nil<|jA 2 rfl<|ai rfl rfl rfl<|jC 2 rfl ?_
     exact⟨(j+1,false),sb,sb,⟨fun j' h1 h2 h3 h4=>(by rcases Nat.lt_or_ge j' j with h|h;exact qF j' h h2 h3 h4;rw[show j'=j by omega,qs]at h3;exact absurd h3 (by decide)),by show 2 * (j+1)≤_;omega,(((hE.t Xd).t e3))⟩,(by show _+2-2 * (j+1)<_+2-2 * j;omega)⟩
  ·cases f
   ·refine jA 4 rfl<|ai rfl rfl rfl<|jC 1 rfl ?_
    replace hb2:=hb2.m hE
    refine ld rfl hb2 rfl<|jC 1 rfl<|lF rfl rfl<|WL.nil<|jA 1 rfl<|WC.exit<|jA 10 rfl<|WC.ret ?_
    replace he:=he.t hE
    exact aw rfl ⟨_,rfl,fun e=>(by obtain⟨j',h1,h2,h3⟩:=nO ((qLo e).2.2.2.2.2 trivial) qi;exact qF j' (by omega) h1 h2 h3),he⟩
   ·refine jA 4 rfl<|ai rfl rfl rfl<|jC 1 rfl ?_
    replace hb2:=hb2.m hE
    refine ld rfl hb2 rfl<|jC 1 rfl<|lF rfl rfl<|WL.nil<|jA 1 rfl<|WC.exit<|jA 7 rfl<|jA 2 rfl<|ai rfl rfl rfl<|jC 2 rfl ?_
    replace hT:=hT.m hE
    exact⟨(i+1),sb,sb,⟨by show 2 * (i+1)≤_;omega,hT.evo⟩,(by show _+2-2 * (i+1)<_+2-2 * i;omega)⟩
 ·refine jA 4 rfl<|ai rfl rfl rfl<|jC 1 rfl ?_
  replace hb1:=hb1.m hE
  refine ld rfl hb1 rfl<|jC 1 rfl<|lF rfl rfl<|WL.nil<|jA 1 rfl<|WC.exit<|jA 4 rfl<|WC.ret ?_
  replace he:=he.t hE
  exact aw rfl ⟨_,rfl,fun _=>rfl,he⟩
theorem BE{k:Int}{ks:List V}{o:Int}(hks:∀x∈ks,fA x):fA (.mk k n t ks o d):=by
 intro A B y cx cy w hN hv hv2 hx hy
 rcases Decidable.em (k=21∨k=22)with q|q
 ·rw[ND]at hN
  obtain⟨k',n',t',ks',o',d'⟩:=y
  obtain⟨rfl,hNK⟩:=hN
  replace hNK:=hNK q
  rw[aE]at hv hv2
  rcases q with rfl|rfl
  ·rcases Decidable.em (k'=21)with h|h
   ·rcases Decidable.em (ks.length=ks'.length)with h1|h1
    ·rcases Decidable.em (d'.length=0)with h2|h2
     ·exact uz hks hNK (by omega) (by omega) hx hy h h1 h2
     ·exact zf hks hNK (by omega) (by omega) hx hy h h1 h2
    ·exact zh hks hNK (by omega) (by omega) hx hy h h1
   ·exact zg hks hNK (by omega) (by omega) hx hy h
  ·rcases Decidable.em (k'=22)with h|h
   ·rcases Decidable.em (ks.length=ks'.length)with h1|h1
    ·rcases Decidable.em (d'.length=0)with h2|h2
     ·exact xG hks hNK (by omega) (by omega) hx hy h h1 h2
     ·exact zi hks hNK (by omega) (by omega) hx hy h h1 h2
    ·exact zl hks hNK (by omega) (by omega) hx hy h h1
   ·exact zj hks hNK (by omega) (by omega) hx hy h
 ·obtain⟨x0,x1,x2,x3,x4,x5,rfl⟩:=hx.six
  obtain⟨pk,ck,pd,cd,hxe,_⟩:=hx.openV
  simp only[List.cons.injEq,and_true]at hxe
  obtain⟨rfl,rfl,rfl,rfl,rfl,rfl⟩:=hxe
  obtain⟨y0,y1,y2,y3,y4,y5,rfl⟩:=hy.six
  refine aR Tryz.func177 ?_
  have he:=XI w
  refine jA 2 rfl ?_
  have:=he.s
  refine Hb rfl fun w1 hb1 e1=>?_
  replace he:=he.t e1
  have:=he.s
  have:=hb1.lt
  refine Hb rfl fun w2 hb2 e2=>?_
  refine jD 6 rfl ?_
  replace hb1:=hb1.m e2
  refine ld rfl hb1 rfl<|Hq (ae (bn rfl rfl) (kQ (by(omega))))<|jC 2 rfl<|lg rfl rfl rfl hb1 rfl<|Hg rfl rfl (ae (bn rfl rfl) (kQ (by(omega))))<|jD 5 rfl<|la rfl hb1<|la rfl hb2 ?_
  replace hx:=(hx.m e1).m e2
  replace hy:=(hy.m e1).m e2
  refine Hl rfl (eR hv hx hy) fun w3 e3=>?_
  refine jC 2 rfl<|WC.ret ?_
  replace he:=(he.t e2).t e3
  exact aw rfl ⟨_,rfl,fun h=>h.same (fun e=>q (.inl e)) (fun e=>q (.inr e)),he⟩
mutual
theorem zm:∀x:V,fA x
 | .mk k n t ks o d=>BE (wm ks)
theorem wm:∀l:List V,∀x∈l,fA x
 |[],x,hx=>by cases hx
 |a::r,x,hx=>by
  rcases List.mem_cons.1 hx with e|hx
  ·exact e▸zm a
  ·exact wm r x hx
end
end Go.Proofs.LL
