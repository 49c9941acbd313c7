/- Contracts of functions and own laws. Conditions: those that each theorem states. -/
import Derived.Test.YtdgbmbjkbmpcbaaGreatDoorV53
set_option linter.all false
set_option autoImplicit true
set_option relaxedAutoImplicit true
set_option maxRecDepth 20000
namespace Go.Proofs.LL
open Go Go.Proofs Go.RowKit
set_option maxHeartbeats 4000000
attribute [local irreducible] ar WL WC cq WT WX
theorem lG(hX:oW A w x cs)(hrm:∀n∈x.rm,n<256)(hUT:UT w):
  ah TP 17 [.agg cs.toArray] w fun r w'=>∃z,r= .bool z∧(z=true→x.did.length≤1∧x.fmt.length≤1∧x.rm.length≤1∧(x.st.length≤1∧∀s∈x.st,ia s)∧x.pay.length≤1000)∧ay w w':=by
 replace hX:=hX.lowW (B:=fun b=>b<w.heap.size) (fun b hb _=>hb)
 obtain⟨hdl,did,tag,fmt,stl,more,rm,st,res,abo,bat,pay⟩:=x
 obtain⟨dv,tv,fv,rv,sv,pv',rfl,hD,hI,hM,hU,hS,hP⟩:=hX.ex
 dsimp only at hD hI hM hU hS hP hrm⊢
 obtain⟨pd,cd,rfl,_⟩:=hD.ex
 obtain⟨pm,cm,rfl,_⟩:=hM.ex
 obtain⟨pu,cu,rfl,_,hu1⟩:=hU.ex
 obtain⟨ps,cs,rfl,_⟩:=hS.ex
 obtain⟨pt,ct,rfl,_⟩:=hI
 obtain⟨pp,cp,rfl,_⟩:=hP
 rcases Nat.lt_or_ge 1 did.length with qdid|qdid
 ·refine aR Tryz.func17 ?_
  have he:=Hi w
  refine uA 2 rfl ?_
  have hs1:=he.s
  refine Hb rfl fun w1 hb1 e1=>?_
  have nx1:=hb1.lt
  have ns1:=e1.s
  refine uD 5 rfl<|ld rfl hb1 rfl<|uC 1 rfl<|Hq (ae (aY rfl rfl) (decide_eq_false (by(omega))))<|uC 44 rfl<|WC.ret ?_
  replace he:=he.t e1
  exact aw rfl ⟨_,rfl,fun h=>(by cases h),he.k fun k hk _=>hk⟩
 rcases Nat.lt_or_ge 1 fmt.length with qfmt|qfmt
 ·refine aR Tryz.func17 ?_
  have he:=Hi w
  refine uA 2 rfl ?_
  have hs1:=he.s
  refine Hb rfl fun w1 hb1 e1=>?_
  have nx1:=hb1.lt
  have ns1:=e1.s
  refine uD 5 rfl<|ld rfl hb1 rfl<|uC 1 rfl<|Hq (ae (aY rfl rfl) (decide_eq_true (by(omega))))<|uC 2 rfl<|LL.lg rfl rfl rfl hb1 rfl<|uC 1 rfl<|Hg rfl rfl (ae (aY rfl rfl) (decide_eq_false (by(omega))))<|uC 39 rfl<|WC.ret ?_
  replace he:=he.t e1
  exact aw rfl ⟨_,rfl,fun h=>(by cases h),he.k fun k hk _=>hk⟩
 rcases Nat.lt_or_ge 1 rm.length with qrm|qrm
 ·refine aR Tryz.func17 ?_
  have he:=Hi w
  refine uA 2 rfl ?_
  have hs1:=he.s
  refine Hb rfl fun w1 hb1 e1=>?_
  have nx1:=hb1.lt
  have ns1:=e1.s
  refine uD 5 rfl<|ld rfl hb1 rfl<|uC 1 rfl<|Hq (ae (aY rfl rfl) (decide_eq_true (by(omega))))<|uC 2 rfl<|LL.lg rfl rfl rfl hb1 rfl<|uC 1 rfl<|Hg rfl rfl (ae (aY rfl rfl) (decide_eq_true (by(omega))))<|uC 3 rfl<|LL.lg rfl rfl rfl hb1 rfl<|uC 1 rfl<|Hg rfl rfl (ae (aY rfl rfl) (decide_eq_false (by(omega))))<|uC 33 rfl<|WC.ret ?_
  replace he:=he.t e1
  exact aw rfl ⟨_,rfl,fun h=>(by cases h),he.k fun k hk _=>hk⟩
 rcases Nat.eq_zero_or_pos rm.length with qr|qr
 ·rcases Nat.lt_or_ge 32 tag.length with qt|qt
  ·refine aR Tryz.func17 ?_
   have he:=Hi w
   refine uA 2 rfl ?_
   have hs1:=he.s
   refine Hb rfl fun w1 hb1 e1=>?_
   have nx1:=hb1.lt
   have ns1:=e1.s
   refine uD 5 rfl<|ld rfl hb1 rfl<|uC 1 rfl<|Hq (ae (aY rfl rfl) (decide_eq_true (by(omega))))<|uC 2 rfl<|LL.lg rfl rfl rfl hb1 rfl<|uC 1 rfl<|Hg rfl rfl (ae (aY rfl rfl) (decide_eq_true (by(omega))))<|uC 3 rfl<|LL.lg rfl rfl rfl hb1 rfl<|uC 1 rfl<|Hg rfl rfl (ae (aY rfl rfl) (decide_eq_true (by(omega))))<|uC 3 rfl<|LL.lg rfl rfl rfl hb1 rfl<|uC 1 rfl<|Hg rfl rfl (ae (ak rfl rfl) (br (by(omega))))<|uC 10 rfl<|LL.lg rfl rfl rfl hb1 rfl<|uC 1 rfl<|Hg rfl rfl (ae (aY rfl rfl) (decide_eq_false (by(omega))))<|uC 14 rfl<|WC.ret ?_
   replace he:=he.t e1
   exact aw rfl ⟨_,rfl,fun h=>(by cases h),he.k fun k hk _=>hk⟩
  ·refine aR Tryz.func17 ?_
   have he:=Hi w
   refine uA 2 rfl ?_
   have hs1:=he.s
   refine Hb rfl fun w1 hb1 e1=>?_
   have nx1:=hb1.lt
   have ns1:=e1.s
   refine uD 5 rfl<|ld rfl hb1 rfl<|uC 1 rfl<|Hq (ae (aY rfl rfl) (decide_eq_true (by(omega))))<|uC 2 rfl<|LL.lg rfl rfl rfl hb1 rfl<|uC 1 rfl<|Hg rfl rfl (ae (aY rfl rfl) (decide_eq_true (by(omega))))<|uC 3 rfl<|LL.lg rfl rfl rfl hb1 rfl<|uC 1 rfl<|Hg rfl rfl (ae (aY rfl rfl) (decide_eq_true (by(omega))))<|uC 3 rfl<|LL.lg rfl rfl rfl hb1 rfl<|uC 1 rfl<|Hg rfl rfl (ae (ak rfl rfl) (br (by(omega))))<|uC 10 rfl<|LL.lg rfl rfl rfl hb1 rfl<|uC 1 rfl<|Hg rfl rfl (ae (aY rfl rfl) (decide_eq_true (by(omega))))<|uC 3 rfl<|LL.lg rfl rfl rfl hb1 rfl ?_
   replace hS:=hS.m e1
   replace hUT:=hUT.m e1
   refine WL.lg rfl rfl rfl rfl (cD Fb.h rfl (ja hS hUT)) ?_
   rintro v2 w2 ⟨z,rfl,qz,e2⟩
   have ns2:=e2.s
   cases z
   ·refine uC 9 rfl<|WC.ret ?_
    replace he:=(he.t e1).t e2
    exact aw rfl ⟨_,rfl,fun h=>(by cases h),he.k fun k hk _=>hk⟩
   ·refine uC 3 rfl ?_
    replace hb1:=hb1.m e2
    refine LL.lg rfl rfl rfl hb1 rfl<|uC 1 rfl<|Hg rfl rfl (aY rfl rfl)<|uC 3 rfl<|WC.ret ?_
    replace he:=(he.t e1).t e2
    exact aw rfl ⟨_,rfl,fun h=>⟨qdid,qfmt,qrm,qz rfl,(by have:=of_decide_eq_true h;omega)⟩,he.k fun k hk _=>hk⟩
 ·obtain⟨n,b,o,en,rfl,qA,_,hA⟩:=hu1 (by omega)
  subst en
  have hn:=hrm n (by simp)
  rcases Nat.lt_or_ge 1 n with q1|q1
  ·refine aR Tryz.func17 ?_
   have he:=Hi w
   refine uA 2 rfl ?_
   have hs1:=he.s
   refine Hb rfl fun w1 hb1 e1=>?_
   have nx1:=hb1.lt
   have ns1:=e1.s
   refine uD 5 rfl<|ld rfl hb1 rfl<|uC 1 rfl<|Hq (ae (aY rfl rfl) (decide_eq_true (by(omega))))<|uC 2 rfl<|LL.lg rfl rfl rfl hb1 rfl<|uC 1 rfl<|Hg rfl rfl (ae (aY rfl rfl) (decide_eq_true (by(omega))))<|uC 3 rfl<|LL.lg rfl rfl rfl hb1 rfl<|uC 1 rfl<|Hg rfl rfl (ae (aY rfl rfl) (decide_eq_true (by(omega))))<|uC 3 rfl<|LL.lg rfl rfl rfl hb1 rfl<|uC 1 rfl<|Hg rfl rfl (ae (ak rfl rfl) (bk (by(simp))))<|uC 2 rfl<|LL.lg rfl rfl rfl hb1 rfl<|Hg rfl rfl (dX Fo.h rfl rfl rfl) ?_
   replace hA:=hA.m e1
   refine Hg rfl rfl (ao Fb.h rfl Xr (hA.get (j:=0) rfl))<|Hg rfl rfl (ae (aY rfl rfl) (decide_eq_false (by(omega))))<|uC 21 rfl<|WC.ret ?_
   replace he:=he.t e1
   exact aw rfl ⟨_,rfl,fun h=>(by cases h),he.k fun k hk _=>hk⟩
  ·rcases Nat.lt_or_ge 32 tag.length with qt|qt
   ·refine aR Tryz.func17 ?_
    have he:=Hi w
    refine uA 2 rfl ?_
    have hs1:=he.s
    refine Hb rfl fun w1 hb1 e1=>?_
    have nx1:=hb1.lt
    have ns1:=e1.s
    refine uD 5 rfl<|ld rfl hb1 rfl<|uC 1 rfl<|Hq (ae (aY rfl rfl) (decide_eq_true (by(omega))))<|uC 2 rfl<|LL.lg rfl rfl rfl hb1 rfl<|uC 1 rfl<|Hg rfl rfl (ae (aY rfl rfl) (decide_eq_true (by(omega))))<|uC 3 rfl<|LL.lg rfl rfl rfl hb1 rfl<|uC 1 rfl<|Hg rfl rfl (ae (aY rfl rfl) (decide_eq_true (by(omega))))<|uC 3 rfl<|LL.lg rfl rfl rfl hb1 rfl<|uC 1 rfl<|Hg rfl rfl (ae (ak rfl rfl) (bk (by(simp))))<|uC 2 rfl<|LL.lg rfl rfl rfl hb1 rfl<|Hg rfl rfl (dX Fo.h rfl rfl rfl) ?_
    replace hA:=hA.m e1
    refine Hg rfl rfl (ao Fb.h rfl Xr (hA.get (j:=0) rfl))<|Hg rfl rfl (ae (aY rfl rfl) (decide_eq_true (by(omega))))<|uC 4 rfl<|LL.lg rfl rfl rfl hb1 rfl<|uC 1 rfl<|Hg rfl rfl (ae (aY rfl rfl) (decide_eq_false (by(omega))))<|uC 14 rfl<|WC.ret ?_
    replace he:=he.t e1
    exact aw rfl ⟨_,rfl,fun h=>(by cases h),he.k fun k hk _=>hk⟩
   ·refine aR Tryz.func17 ?_
    have he:=Hi w
    refine uA 2 rfl ?_
    have hs1:=he.s
    refine Hb rfl fun w1 hb1 e1=>?_
    have nx1:=hb1.lt
    have ns1:=e1.s
    refine uD 5 rfl<|ld rfl hb1 rfl<|uC 1 rfl<|Hq (ae (aY rfl rfl) (decide_eq_true (by(omega))))<|uC 2 rfl<|LL.lg rfl rfl rfl hb1 rfl<|uC 1 rfl<|Hg rfl rfl (ae (aY rfl rfl) (decide_eq_true (by(omega))))<|uC 3 rfl<|LL.lg rfl rfl rfl hb1 rfl<|uC 1 rfl<|Hg rfl rfl (ae (aY rfl rfl) (decide_eq_true (by(omega))))<|uC 3 rfl<|LL.lg rfl rfl rfl hb1 rfl<|uC 1 rfl<|Hg rfl rfl (ae (ak rfl rfl) (bk (by(simp))))<|uC 2 rfl<|LL.lg rfl rfl rfl hb1 rfl<|Hg rfl rfl (dX Fo.h rfl rfl rfl) ?_
    replace hA:=hA.m e1
    refine Hg rfl rfl (ao Fb.h rfl Xr (hA.get (j:=0) rfl))<|Hg rfl rfl (ae (aY rfl rfl) (decide_eq_true (by(omega))))<|uC 4 rfl<|LL.lg rfl rfl rfl hb1 rfl<|uC 1 rfl<|Hg rfl rfl (ae (aY rfl rfl) (decide_eq_true (by(omega))))<|uC 3 rfl<|LL.lg rfl rfl rfl hb1 rfl ?_
    replace hS:=hS.m e1
    replace hUT:=hUT.m e1
    refine WL.lg rfl rfl rfl rfl (cD Fb.h rfl (ja hS hUT)) ?_
    rintro v2 w2 ⟨z,rfl,qz,e2⟩
    have ns2:=e2.s
    cases z
    ·refine uC 9 rfl<|WC.ret ?_
     replace he:=(he.t e1).t e2
     exact aw rfl ⟨_,rfl,fun h=>(by cases h),he.k fun k hk _=>hk⟩
    ·refine uC 3 rfl ?_
     replace hb1:=hb1.m e2
     refine LL.lg rfl rfl rfl hb1 rfl<|uC 1 rfl<|Hg rfl rfl (aY rfl rfl)<|uC 3 rfl<|WC.ret ?_
     replace he:=(he.t e1).t e2
     exact aw rfl ⟨_,rfl,fun h=>⟨qdid,qfmt,qrm,qz rfl,(by have:=of_decide_eq_true h;omega)⟩,he.k fun k hk _=>hk⟩
end Go.Proofs.LL
namespace Go.Proofs.LL
open Go Go.Proofs Go.RowKit
set_option maxHeartbeats 4000000
attribute [local irreducible] ar WL WC cq WT WX
def Fz(c:Nat):gF:=⟨c,0,0,[],false,false,[]⟩
theorem n9:j9 A w (Fz c) [.int .i64 (c:Int),.int .u32 0,.int .u64 0,.slice none 0 0,.bool false,.bool false,.slice none 0 0]:=
 ⟨_,none,0,rfl,⟨none,0,rfl,fun _=>⟨none,0,rfl,Nat.le_refl _,.inl rfl⟩⟩,cM.nil⟩
theorem gG{c:Nat}(h:35≤c∧c≤39):ah TP 176 [.int .u64 (c:Int)] w fun r w'=>∃a b,r= .tuple #[.agg #[a,b],.bool true]∧cW (fun b=>w.heap.size≤b) w' c (lZ (Fz c)) [a,b]∧ay w w':=by
 rcases(show c=35∨c=36∨c=37∨c=38∨c=39 by omega)with rfl|rfl|rfl|rfl|rfl
 ·refine co Tryz.func176 ?_
  have he:=Hi w
  refine uA 2 rfl ?_
  have hs1:=he.s
  refine Ha fun w1 hb1 e1=>?_
  have nx1:=hb1.lt
  have ns1:=e1.s
  refine uD 26 rfl<|Hq (bp (m:=35) Fo.h rfl (by decide))<|Hq (az (cs:=[_,_,_,_,_,_,_]) Fo.h rfl rfl)<|cl rfl (fi (A:=fun b=>b<0) (n9 (c:=35)) h (by decide) (by decide) (by decide)) ?_
  rintro v2 w2 ⟨a,b,rfl,hC,e2⟩
  have q1:=hC.one
  have ns2:=e2.s
  replace hb1:=hb1.m e2
  refine Ho rfl rfl hb1 fun w3 hb1 e3 hz3=>?_
  have ns3:=e3.s
  refine uC 2 rfl<|WC.ret ?_
  replace hC:=hC.m e3
  replace he:=((he.t e1).t e2).t e3
  exact cw rfl hb1 eT rfl ⟨_,_,rfl,hC.low (fun b h=>by rcases h with h|h;exact absurd h.1 (Nat.not_lt_zero b);exact(by show w.heap.size≤b;omega)),he.k fun k hk _=>hk⟩
 ·refine co Tryz.func176 ?_
  have he:=Hi w
  refine uA 2 rfl ?_
  have hs1:=he.s
  refine Ha fun w1 hb1 e1=>?_
  have nx1:=hb1.lt
  have ns1:=e1.s
  refine uD 32 rfl<|Hq (bp (m:=36) Fo.h rfl (by decide))<|Hq (az (cs:=[_,_,_,_,_,_,_]) Fo.h rfl rfl)<|cl rfl (fi (A:=fun b=>b<0) (n9 (c:=36)) h (by decide) (by decide) (by decide)) ?_
  rintro v2 w2 ⟨a,b,rfl,hC,e2⟩
  have q1:=hC.one
  have ns2:=e2.s
  replace hb1:=hb1.m e2
  refine Ho rfl rfl hb1 fun w3 hb1 e3 hz3=>?_
  have ns3:=e3.s
  refine uC 2 rfl<|WC.ret ?_
  replace hC:=hC.m e3
  replace he:=((he.t e1).t e2).t e3
  exact cw rfl hb1 eT rfl ⟨_,_,rfl,hC.low (fun b h=>by rcases h with h|h;exact absurd h.1 (Nat.not_lt_zero b);exact(by show w.heap.size≤b;omega)),he.k fun k hk _=>hk⟩
 ·refine co Tryz.func176 ?_
  have he:=Hi w
  refine uA 2 rfl ?_
  have hs1:=he.s
  refine Ha fun w1 hb1 e1=>?_
  have nx1:=hb1.lt
  have ns1:=e1.s
  refine uD 38 rfl<|Hq (bp (m:=37) Fo.h rfl (by decide))<|Hq (az (cs:=[_,_,_,_,_,_,_]) Fo.h rfl rfl)<|cl rfl (fi (A:=fun b=>b<0) (n9 (c:=37)) h (by decide) (by decide) (by decide)) ?_
  rintro v2 w2 ⟨a,b,rfl,hC,e2⟩
  have q1:=hC.one
  have ns2:=e2.s
  replace hb1:=hb1.m e2
  refine Ho rfl rfl hb1 fun w3 hb1 e3 hz3=>?_
  have ns3:=e3.s
  refine uC 2 rfl<|WC.ret ?_
  replace hC:=hC.m e3
  replace he:=((he.t e1).t e2).t e3
  exact cw rfl hb1 eT rfl ⟨_,_,rfl,hC.low (fun b h=>by rcases h with h|h;exact absurd h.1 (Nat.not_lt_zero b);exact(by show w.heap.size≤b;omega)),he.k fun k hk _=>hk⟩
 ·refine co Tryz.func176 ?_
  have he:=Hi w
  refine uA 2 rfl ?_
  have hs1:=he.s
  refine Ha fun w1 hb1 e1=>?_
  have nx1:=hb1.lt
  have ns1:=e1.s
  refine uD 44 rfl<|Hq (bp (m:=38) Fo.h rfl (by decide))<|Hq (az (cs:=[_,_,_,_,_,_,_]) Fo.h rfl rfl)<|cl rfl (fi (A:=fun b=>b<0) (n9 (c:=38)) h (by decide) (by decide) (by decide)) ?_
  rintro v2 w2 ⟨a,b,rfl,hC,e2⟩
  have q1:=hC.one
  have ns2:=e2.s
  replace hb1:=hb1.m e2
  refine Ho rfl rfl hb1 fun w3 hb1 e3 hz3=>?_
  have ns3:=e3.s
  refine uC 2 rfl<|WC.ret ?_
  replace hC:=hC.m e3
  replace he:=((he.t e1).t e2).t e3
  exact cw rfl hb1 eT rfl ⟨_,_,rfl,hC.low (fun b h=>by rcases h with h|h;exact absurd h.1 (Nat.not_lt_zero b);exact(by show w.heap.size≤b;omega)),he.k fun k hk _=>hk⟩
 ·refine co Tryz.func176 ?_
  have he:=Hi w
  refine uA 2 rfl ?_
  have hs1:=he.s
  refine Ha fun w1 hb1 e1=>?_
  have nx1:=hb1.lt
  have ns1:=e1.s
  refine uD 47 rfl<|Hq (bp (m:=39) Fo.h rfl (by decide))<|Hq (az (cs:=[_,_,_,_,_,_,_]) Fo.h rfl rfl)<|cl rfl (fi (A:=fun b=>b<0) (n9 (c:=39)) h (by decide) (by decide) (by decide)) ?_
  rintro v2 w2 ⟨a,b,rfl,hC,e2⟩
  have q1:=hC.one
  have ns2:=e2.s
  replace hb1:=hb1.m e2
  refine Ho rfl rfl hb1 fun w3 hb1 e3 hz3=>?_
  have ns3:=e3.s
  refine uC 2 rfl<|WC.ret ?_
  replace hC:=hC.m e3
  replace he:=((he.t e1).t e2).t e3
  exact cw rfl hb1 eT rfl ⟨_,_,rfl,hC.low (fun b h=>by rcases h with h|h;exact absurd h.1 (Nat.not_lt_zero b);exact(by show w.heap.size≤b;omega)),he.k fun k hk _=>hk⟩
theorem sQ(h:gk 19 l ys)(hA:fH l)(hT:fe l)(hk:∀x∈aP l,x.kind=20):bG (bq (dP l)) (bq (dP ys)):=by
 obtain⟨es,rfl,ps,qs,hS,hq,rfl⟩:=h
 obtain⟨⟨hF,hM,_⟩,_,_⟩:=hA
 unfold dP
 rw[bM (by omega) (by omega),bM (by omega) (by omega),bG]
 refine .inr (.inr ⟨rfl,rfl,?_,rfl,rfl,?_⟩)
 ·simp only[V.kids]
  rw[aZ,aZ,eI,dE,hq.length_eq,hS.length]
 ·refine jf (kk:=19) hS (fun q h=>hq.mem_iff.2 h) (fun e he a ha=>?_) fun e he=>⟨hF.mem _ (bX he).1,hT.mem _ (bX he).1⟩
  have hm:=(bX he).2
  have hke:=hk _ hm
  have hpl:=(hM.2.1 _ hm).2
  have hfe:=hF.mem _ (fj hm)
  have hte:=hT.mem _ (fj hm)
  subst ha
  obtain⟨⟨k,n,t,ks,o,d⟩,v,c⟩:=e
  simp only[V.kind,V.text]at hke⊢
  subst hke
  have hks:=hte.kids (by simp only[V.kind];omega)
  simp only[V.kids]at hks
  have hd:d=[]:=hpl.2.2.2.1
  have hn:n=0:=hpl.2.2.2.2.2 (.inr (by simp only[V.kind];omega))
  subst hks hd hn
  rw[fq,ec _ _ _ _ (by omega) (by omega)]
  simp[same,fc,gr]
theorem aN.mapA(hB:gk 19 l ys)(hW:lB 20 l)(hc:aj l≤999999999):aN v aX (mV l) (mV ys):=by
 have hL:=sQ hB hW.1 hW.2.1 hW.2.2
 have hcy:=mi hB
 have hlen:l.length=ys.length:=by
  have h:=(bG.kids (k:=22) (by rw[dP,bM (by decide) (by decide)]at hL;exact hL) (.inr rfl)).2.1
  rw[dP,bM (by decide) (by decide)]at h
  simp only[V.kids]at h
  rw[aZ,aZ]at h
  exact h
 rcases Decidable.em (l=[])with h|h
 ·have e:mV l=aX:=if_pos h
  have e2:mV ys=aX:=if_pos (List.eq_nil_of_length_eq_zero (by rw[← hlen,h];rfl))
  rw[e,e2]
  exact aN.pv0 (k:=0) (n:=0) (s:=[]) cQ cQ (by decide) (by decide) (by decide)
 ·have e:mV l=dP l:=if_neg h
  have e2:mV ys=dP ys:=if_neg (fun e=>h (List.eq_nil_of_length_eq_zero (by rw[hlen,e];rfl)))
  rw[e,e2]
  refine aN.plain ?_ ?_ ?_ ?_ ?_
  ·rw[dH];show¬(0=1);decide
  ·rw[dH,dP,bM (by decide) (by decide),ND]
   exact⟨rfl,fun _=>gV hW.1.1.1⟩
  ·rw[dH,dH];exact hL
  ·rw[dH,dP,aE,aj];omega
  ·rw[dH,dP,aE,aj];omega
structure Da (s s':gF):Prop where
 code:s'.code=s.code
 num:s.code=35→s'.num=s.num∧s'.off=s.off
 flt:s.code=37→CW s.flt s'.flt
 ann:s.code=39→s'.fail=s.fail∧s'.els=s.els∧gk 19 s.ann s'.ann
theorem aN.state(hB:Da s s')(hA:ia s)(hc:aE (dQ s.code (lZ s))≤999999999):aN v d (dQ s.code (lZ s)) (dQ s'.code (lZ s')):=by
 obtain⟨code,num,off,flt,fail,els,ann⟩:=s
 obtain⟨code',num',off',flt',fail',els',ann'⟩:=s'
 obtain⟨b1,b2,b3,b4⟩:=hB
 obtain⟨a1,a2,a3,a4⟩:=hA
 dsimp only at b1 b2 b3 b4 a1 a2 a3 a4 hc⊢
 subst b1
 rcases(show code'=35∨code'=36∨code'=37∨code'=38∨code'=39 by omega)with rfl|rfl|rfl|rfl|rfl
 ·obtain⟨rfl,rfl⟩:=b2 rfl
  refine aN.comp (code:=35) (fs:=[(pv 4 0 [],aX),(pv 5 0 [],aX)]) (fun w=>gG (c:=35) a1) (by simp) rfl rfl fun i hi=>?_
  match i,hi with
  |0,_=>exact aN.pv0 (k:=4) (n:=num') (s:=[]) (dh (by decide)) (dh (by decide)) (by decide) (by decide) (by decide)
  |1,_=>exact aN.pv0 (k:=5) (n:=off') (s:=[]) (dh (by decide)) (dh (by decide)) (by decide) (by decide) (by decide)
 ·exact aN.comp (code:=36) (fs:=[]) (fun w=>gG (c:=36) a1) (by simp) rfl rfl fun i hi=>absurd hi (by simp)
 ·refine aN.comp (code:=37) (fs:=[(aX,aX)]) (fun w=>gG (c:=37) a1) (by simp) rfl rfl fun i hi=>?_
  match i,hi with
  |0,_=>
   have e:aE (dQ 37 (lZ ⟨37,num,off,flt,fail,els,ann⟩))=1+(aE (dg flt)+0)+aj [uV 37]:=by
    show aE (.mk 21 0 [] [dg flt] 0 [uV 37])=_
    rw[aE,aj,aj]
   have h:=xw a2
   exact aN.faults (b3 rfl) a3 (fun f hf=>by have:=h f hf;omega)
 ·exact aN.comp (code:=38) (fs:=[]) (fun w=>gG (c:=38) a1) (by simp) rfl rfl fun i hi=>absurd hi (by simp)
 ·obtain⟨rfl,rfl,hP⟩:=b4 rfl
  refine aN.comp (code:=39) (fs:=[(pv 1 0 [],pv 1 0 []),(pv 1 0 [],pv 1 0 []),(aX,aX)]) (fun w=>gG (c:=39) a1) (by simp) rfl rfl fun i hi=>?_
  match i,hi with
  |0,_=>exact aN.num (by decide)
  |1,_=>exact aN.num (by decide)
  |2,_=>
   have e:aE (dQ 39 (lZ ⟨39,num,off,flt,fail',els',ann⟩))=1+(aE (pv 1 fail'.toNat [])+(aE (pv 1 els'.toNat [])+(aE (mV ann)+0)))+aj [uV 39]:=by
    show aE (.mk 21 0 [] [pv 1 fail'.toNat [],pv 1 els'.toNat [],mV ann] 0 [uV 39])=_
    rw[aE,aj,aj,aj,aj]
   have n1:aj ann≤aE (mV ann):=by
    unfold mV
    split
    ·rename_i e;rw[e,aj];omega
    ·rw[dP,aE];omega
   exact aN.mapA hP (a4 rfl) (show aj ann≤999999999 by omega)
def Db(l l':List gF):Prop:=(l=[]∧l'=[])∨∃s s',l=[s]∧l'=[s']∧Da s s'
theorem aN.states(hB:Db l l')(hA:∀s∈l,ia s)(hc:aE (dF l)≤999999999):aN v aX (dF l) (dF l'):=by
 rcases hB with⟨rfl,rfl⟩|⟨s,s',rfl,rfl,hB⟩
 ·exact aN.pv0 (k:=0) (n:=0) (s:=[]) cQ cQ (by decide) (by decide) (by decide)
 ·exact aN.state hB (hA s (by simp)) hc
theorem aN.few{k:Int}(hk:k≠0∧k≠21∧k≠22∧k≠23):aN v aX (nv k l) (nv k l):=by
 match l with
 |[]=>exact aN.pv0 (k:=0) (n:=0) (s:=[]) cQ cQ (by decide) (by decide) (by decide)
 |n::_=>exact aN.pv0 (k:=k) (n:=n) (s:=[]) (dh hk.1) (dh hk.1) hk.2.1 hk.2.2.1 hk.2.2.2
theorem aN.tag:aN v aX (tV 18 s) (tV 18 s):=by
 rcases Decidable.em (s=[])with h|h
 ·have e:tV 18 s=aX:=if_pos h
  rw[e]
  exact aN.pv0 (k:=0) (n:=0) (s:=[]) cQ cQ (by decide) (by decide) (by decide)
 ·have e:tV 18 s=pv 18 0 s:=if_neg h
  rw[e]
  exact aN.pv0 (dh (by omega)) (dh (by omega)) (by omega) (by omega) (by omega)
structure Ew (x x':Xf):Prop where
 hdl:x'.hdl=x.hdl
 did:x'.did=x.did
 tag:x'.tag=x.tag
 fmt:x'.fmt=x.fmt
 stl:x'.stl=x.stl
 more:x'.more=x.more
 rm:x'.rm=x.rm
 st:Db x.st x'.st
 res:x'.res=x.res
 abo:x'.abo=x.abo
 bat:x'.bat=x.bat
theorem wu(hC:cW A w 20 (jy x) c1)(hC2:cW B w 20 (jy x') c2)(hB:Ew x x')(hA:∀s∈x.st,ia s)(hc:aE (dF x.st)≤999999999):
  ah TP 10 [.agg c1.toArray,.agg c2.toArray] w fun r w'=>r= .bool true∧ay w w':=by
 obtain⟨hdl,did,tag,fmt,stl,more,rm,st,res,abo,bat,pay⟩:=x
 obtain⟨hdl',did',tag',fmt',stl',more',rm',st',res',abo',bat',pay'⟩:=x'
 obtain⟨b1,b2,b3,b4,b5,b6,b7,b8,b9,b10,b11⟩:=hB
 dsimp only at b1 b2 b3 b4 b5 b6 b7 b8 b9 b10 b11 hA hc
 subst b1 b2 b3 b4 b5 b6 b7 b9 b10 b11
 refine A3 hC hC2 (by simp[jy]) rfl fun i hi=>?_
 match i,hi with
 |0,_=>exact aN.pv0 (k:=4) (n:=hdl') (s:=[]) (dh (by decide)) (dh (by decide)) (by decide) (by decide) (by decide)
 |1,_=>exact aN.few (by decide)
 |2,_=>exact aN.tag
 |3,_=>exact aN.few (by decide)
 |4,_=>exact aN.num (by decide)
 |5,_=>exact aN.num (by decide)
 |6,_=>exact aN.few (by decide)
 |7,_=>exact aN.states b8 hA hc
 |8,_=>exact aN.num (by decide)
 |9,_=>exact aN.num (by decide)
 |10,_=>exact aN.num (by decide)
 |i+11,h=>exact absurd h (by simp[jy])
theorem lM{k:Int}{l:List Nat}(hk:k=2∨k=4)(h2:k=2→∀n∈l,n<256)(h4:∀n∈l,n<4294967296):iH (nv k l):=by
 match l,h2,h4 with
 |[],_,_=>exact kj
 |n::_,h2,h4=>
  have:=h4 n (by simp)
  refine⟨lA (by omega) (by omega) (fun _=>this) (fun h=>h2 h n (by simp)) (by omega),fun h=>?_,fun h=>?_⟩
  ·have:k=0:=h
   omega
  ·have:k=23:=h
   omega
theorem wH(b:Bool):Wt (pv 1 b.toNat []):=lA (by omega) (fun _=>by cases b<;>decide) (by omega) (by omega) (by cases b<;>decide)
theorem qP{l:List gF}(hok:∀s∈l,kH s)(hA:∀s∈l,ia s):iH (dF l):=by
 match l,hok,hA with
 |[],_,_=>exact kj
 |s::r,hok,hA=>
  have h1:=hok s (by simp)
  have h2:=hA s (by simp)
  refine⟨?_,fun h=>absurd h (by show¬((21:Int)=0);decide),fun h=>absurd h (by show¬((21:Int)=23);decide)⟩
  rw[dF,dQ,Wt]
  refine⟨by omega,by omega,by omega,jg (by omega) (by omega) (by omega) (by omega) (by omega),by rw[List.length_map];have:=Kz9 s;omega,.inr ⟨s.code,by have:=h1.code;omega,rfl⟩,fun _=>?_,fun h=>by omega⟩
  obtain⟨code,num,off,flt,fail,els,ann⟩:=s
  obtain⟨c1,c2,c3,c4⟩:=h1
  obtain⟨d1,d2,d3,d4⟩:=h2
  dsimp only at c1 c2 c3 c4 d1 d2 d3 d4
  rcases(show code=35∨code=36∨code=37∨code=38∨code=39 by omega)with rfl|rfl|rfl|rfl|rfl
  ·show g9 [pv 4 num [],pv 5 off []]
   rw[g9,g9,g9]
   exact⟨lA (by omega) (by omega) (fun _=>c2) (by omega) (by omega),lA (by omega) (by omega) (by omega) (by omega) c3,trivial⟩
  ·show g9 []
   rw[g9];trivial
  ·show g9 [dg flt]
   rw[g9,g9]
   exact⟨(qJ d3).1,trivial⟩
  ·show g9 []
   rw[g9];trivial
  ·show g9 [pv 1 fail.toNat [],pv 1 els.toNat [],mV ann]
   rw[g9,g9,g9,g9]
   exact⟨wH fail,wH els,Cz (d4 rfl),trivial⟩
theorem eW(hok:kK x)(hA:∀s∈x.st,ia s):∀f∈jy x,iH f.1:=by
 intro f hf
 simp only[jy,List.mem_cons,List.not_mem_nil,or_false]at hf
 rcases hf with rfl|rfl|rfl|rfl|rfl|rfl|rfl|rfl|rfl|rfl|rfl
 ·exact fL (.inr rfl) (by omega) fun _=>hok.hdl
 ·exact lM (.inr rfl) (by omega) hok.did.2
 ·exact yU (by omega)
 ·exact lM (.inr rfl) (by omega) hok.fmt.2
 ·exact fL (.inl rfl) (fun _=>by cases x.stl<;>decide) (by omega)
 ·exact fL (.inl rfl) (fun _=>by cases x.more<;>decide) (by omega)
 ·exact lM (.inl rfl) (fun _=>hok.rm.2) (fun n hn=>by have:=hok.rm.2 n hn;omega)
 ·exact qP hok.st.2 hA
 ·exact fL (.inl rfl) (fun _=>by cases x.res<;>decide) (by omega)
 ·exact fL (.inl rfl) (fun _=>by cases x.abo<;>decide) (by omega)
 ·exact fL (.inl rfl) (fun _=>by cases x.bat<;>decide) (by omega)
theorem dS:(jy x).length=11:=rfl
theorem iA(hC:cW A w 20 (jy x) cells)(hF:Fm w fb)(hA:∀b,A b→b≠fb)(hok:∀f∈jy x,iH f.1)(hv:bF ((jy x).map (·.1))≤900000000):
  ah TP 9 [.agg cells.toArray,.pointer (some ⟨fb,0,none⟩)] w fun r w'=>∃ks bs,ks.length≤11∧(∀i (h:i<(jy x).length),fw (jy x)[i].1 (jy x)[i].2 (bA ks i))∧g8 (.mk 21 0 [] ks 0 [uV 20]) bs∧bs.length≤900001000∧aT w.heap.size 5 1 w' r bs.length (bc bs)∧am (fun k=>k≠fb) w w':=by
 refine(C3 hC hF hA (by rw[dS];omega) (by rw[dS];omega) (by omega) (by omega) hok).imp fun r w' ⟨ks,bs,h1,h2,h3,h4,_,h6⟩=>⟨ks,bs,h1,h2,h3,?_,h4,h6⟩
 have h7:=h3.vol
 have h8:=wG h1 h2
 have e1:vol (.mk 21 0 [] ks 0 [uV 20])=64+([]:List UInt8).length+bF ks+bF [uV 20]:=by rw[vol]
 have e2:bF [uV 20]=64:=by simp[bF,vol,uV]
 rw[e1,e2,List.length_nil]at h7
 omega
theorem Ad(hV:VF (dQ 20 (jy x)))(hc:aE (dQ 20 (jy x))≤300):bF ((jy x).map (·.1))≤900000000∧aE (dF x.st)≤999999999:=by
 have h1:=hV.vol
 have e1:vol (dQ 20 (jy x))=64+([]:List UInt8).length+bF ((jy x).map (·.1))+bF [uV 20]:=by rw[dQ,vol]
 have e2:aE (dQ 20 (jy x))=1+aj ((jy x).map (·.1))+aj [uV 20]:=by rw[dQ,aE]
 have m1:aE (dF x.st)≤aj ((jy x).map (·.1)):=bo (by simp[jy])
 exact⟨by omega,by omega⟩
end Go.Proofs.LL
namespace Go.Proofs.LL
open Go Go.Proofs Go.RowKit
set_option maxHeartbeats 4000000
attribute [local irreducible] ar WL WC cq WT WX
theorem vi{rb:Nat}{fs:List (Value×Value)}{ks:List V}{x:V}{r:List UInt8}{G:Nat→World→Value→Prop}{J:World→Prop}(hJ0:J w)(hJ:∀w1 w2:World,J w1→am (fun k=>k≠rb∧k≠xb) w1 w2→J w2)
  (hfs:fs.length=n) (hsz:n≤1000) (hone:∀p∈fs,p.1.oneCell'=true∧p.2.oneCell'=true) (hle:ks.length≤n) (hk:x.kind=5) (hn:x.num<256) (hP:Pc x cu du) (hh:di hd ks.length body) (hEn:bw ks body)
  (hF:aH w fb (eV fs)) (hrx:rb<xb) (hxf:fb≠xb) (hrf:rb<fb) (hX:aH w xb zs) (hzs:zs.length=m) (hnm:n≤m)
  (hds:∀y∈ks,y.kind=0→y.desc=[])
  (hG:∀j v (w1 w2:World),w.heap.size≤w1.heap.size→G j w1 v→am (fun k=>k≠rb∧k≠xb) w1 w2→G j w2 v)
  (hstep:∀j (hj:j<ks.length) (hj2:j<fs.length) (wi:World) (cs:List Value) (bs rest:List UInt8),w.heap.size≤wi.heap.size→aH wi xb cs→cs.length=m→cs[j]?=zs[j]?→g8 ks[j] bs→ks[j].kind≠0→Rd wi rb (bs++rest)→
   ah TP 83 [.pointer (some ⟨rb,0,none⟩),fs[j].1] wi fun u w'=>u= .nilIface∧(∃v,aH w' xb (cs.set j v)∧G j w' v)∧Rd w' rb rest∧am (fun k=>k≠rb∧k≠xb) wi w')
  (hnull:∀j (hj2:j<fs.length),(∀hj:j<ks.length,ks[j].kind=0)→
   (fs[j].2= .nilFunc∧∀(wi:World) (v:Value),w.heap.size≤wi.heap.size→zs[j]?=some v→G j wi v)∨
   (∃f cap,fs[j].2= .func (.func f) #[] (List.toArray cap)∧cH TP f=true∧∀(wi:World) (cs:List Value),w.heap.size≤wi.heap.size→J wi→aH wi xb cs→cs.length=m→ah TP f cap wi fun u w'=>u= .nilIface∧(∃v,aH w' xb (cs.set j v)∧G j w' v)∧am (fun k=>k≠xb) wi w'))
  (hR:Rd w rb (0::((cu::du)++(hd++(body++r))))):
  ah TP 55 [.pointer (some ⟨rb,0,none⟩),.int .u8 (x.num:Int),.slice (some ⟨fb,0,none⟩) n n] w fun u w'=>u= .nilIface∧(∃vs,vs.length=m∧aH w' xb vs∧(∀j v,j<n→vs[j]?=some v→G j w' v)∧∀j,n≤j→vs[j]?=zs[j]?)∧Rd w' rb r∧am (fun k=>k≠rb∧k≠xb) w w':=by
 have key:∀(i:Nat) (wi w':World) (cs:List Value) (v:Value),i<n→(w.heap.size≤wi.heap.size∧J wi)→cs.length=m→(∀j v,j<i→cs[j]?=some v→G j wi v)→(∀j,i≤j→cs[j]?=zs[j]?)→am (fun k=>k≠rb∧k≠xb) wi w'→aH w' xb (cs.set i v)→G i w' v→
   (w.heap.size≤w'.heap.size∧J w')∧∃cs,cs.length=m∧aH w' xb cs∧(∀j v,j<i+1→cs[j]?=some v→G j w' v)∧(∀j,i+1≤j→cs[j]?=zs[j]?):=by
  intro i wi w' cs v hin hwi hl h1 h2 hev hb hg
  refine⟨⟨Nat.le_trans hwi.1 hev.s,hJ _ _ hwi.2 hev⟩,cs.set i v,by simp[hl],hb,fun j u hj hu=>?_,fun j hj=>?_⟩
  ·rw[List.getElem?_set]at hu
   split at hu
   ·rename_i hij
    subst hij
    split at hu
    ·cases hu;exact hg
    ·cases hu
   ·exact hG j u wi w' hwi.1 (h1 j u (by omega) hu) hev
  ·rw[List.getElem?_set_ne (by omega)]
   exact h2 j (by omega)
 have hmain:=kT (T:=fun k=>k=xb) (I:=fun i wi=>(w.heap.size≤wi.heap.size∧J wi)∧∃cs,cs.length=m∧aH wi xb cs∧(∀j v,j<i→cs[j]?=some v→G j wi v)∧(∀j,i≤j→cs[j]?=zs[j]?))
  hfs hsz hone hle hk hn hP hh hEn hF (fun k hk=>by omega) hxf hrf
  (fun i w1 w2 hi he=>by
   obtain⟨h1,cs,h2,h3,h4,h5⟩:=hi
   exact⟨⟨Nat.le_trans h1.1 he.s,hJ _ _ h1.2 (he.k fun k _ h=>h.1)⟩,cs,h2,h3.m he,fun j v hj hv=>hG j v w1 w2 h1.1 (h4 j v hj hv) (he.k fun k _ h=>h.1),h5⟩)
  ⟨⟨Nat.le_refl _,hJ0⟩,zs,hzs,hX,fun j v hj=>absurd hj (by omega),fun j _=>rfl⟩ hds
  (fun i hi hi2 wi bs rest hwi hI hEn hne hRd=>by
   obtain⟨h1,cs,h2,h3,h4,h5⟩:=hI
   refine(hstep i hi hi2 wi cs bs rest hwi h3 h2 (h5 i (Nat.le_refl _)) hEn hne hRd).imp ?_
   rintro u w' ⟨rfl,⟨v,hb,hg⟩,hr,hev⟩
   exact⟨rfl,key i wi w' cs v (by omega) h1 h2 h4 h5 hev hb hg,hr,hev⟩)
  (fun i hi2 hz=>by
   rcases hnull i hi2 hz with⟨h1,h2⟩|⟨f,cap,h1,h2,h3⟩
   ·refine .inl ⟨h1,fun wi hwi hI=>?_⟩
    obtain⟨h4,cs,h5,h6,h7,h8⟩:=hI
    refine⟨h4,cs,h5,h6,fun j v hj hv=>?_,fun j hj=>h8 j (by omega)⟩
    rcases Nat.lt_or_ge j i with hji|hji
    ·exact h7 j v hji hv
    ·have:j=i:=by omega
     subst this
     rw[h8 j (Nat.le_refl _)]at hv
     exact h2 wi v h4.1 hv
   ·refine .inr ⟨f,cap,h1,h2,fun wi hwi hI=>?_⟩
    obtain⟨h4,cs,h5,h6,h7,h8⟩:=hI
    refine(h3 wi cs hwi h4.2 h6 h5).imp ?_
    rintro u w' ⟨rfl,⟨v,hb,hg⟩,hev⟩
    exact⟨rfl,key i wi w' cs v (by omega) h4 h5 h7 h8 (hev.k fun k _ h=>h.2) hb hg,hev⟩)
  hR
 refine hmain.imp ?_
 rintro u w' ⟨h1,⟨h2,cs,h3,h4,h5,h6⟩,h7,h8⟩
 exact⟨h1,⟨cs,h3,h4,h5,h6⟩,h7,h8⟩
theorem sw{x:V}{r:List UInt8}(hk:x.kind=5)(hn:x.num<256)(hP:Pc x cu du)(hh:di hd 0 body)(hb:body=[])(hR:Rd w rb (0::((cu::du)++(hd++(body++r))))):
  ah TP 55 [.pointer (some ⟨rb,0,none⟩),.int .u8 (x.num:Int),.slice none 0 0] w fun u w'=>u= .nilIface∧Rd w' rb r∧am (fun k=>k≠rb) w w':=by
 subst hb
 refine aR Tryz.func55 ?_
 refine uA 7 rfl<|Hm rfl (eZ hk hn hP hh hR) fun w1 hR e1=>?_
 refine uD 12 rfl<|Hq (aB Fb.h rfl)<|uD 3 rfl<|uA 5 rfl<|Hq (ae (bn rfl rfl) (fI (rfl)))<|uD 3 rfl<|uA 6 rfl<|Hq (ae (aS rfl rfl) (decide_eq_false (by(decide))))<|uD 3 rfl<|uA 5 rfl<|Hq (bu (h:=0) Fo.h rfl rfl rfl (by simp))<|uD 4 rfl<|WC.loop2 (ι:=Nat) [(0,_),(2,_),(6,_),(8,_),(34,_),(35,_)] (fun i=>[(9,.nilIface),(36,.int .i64 0)]) (fun i wi=>ay w1 wi) (fun i=>0) 0 sb sb Xr ?_
 intro i wi1 hh;have hE:=hh
 refine uA 2 rfl<|Hq (ae (ef rfl rfl) (decide_eq_false (by(decide))))<|uD 3 rfl<|WC.exit<|uA 5 rfl<|Hq (cK Fo.h rfl rfl rfl (by simp))<|uD 4 rfl ?_
 replace hR:=hR.m hE
 refine WC.loop2 (ι:=Nat) [(0,_),(2,_),(6,_),(8,_),(34,_),(35,_),(36,_),(61,_),(62,_)] (fun i=>[(9,.nilIface),(63,.int .i64 0)]) (fun i wi=>ay wi1 wi) (fun i=>0) 0 sb sb Xr ?_
 intro i wi2 hh;have hE:=hh
 refine uA 2 rfl<|Hq (ae (ef rfl rfl) (decide_eq_false (by(decide))))<|uD 3 rfl<|WC.exit<|uA 4 rfl<|WC.ret ?_
 replace hR:=hR.m hE
 exact aw rfl ⟨rfl,hR,ch⟩
def wM(k:Int)(y:V)(l:List Nat):Prop:=(kp y∧l=[])∨∃n,l=[n]∧y.kind=k∧y.desc=[]∧y.num=n
def eQ(k:IntKind)(N0:Nat)(l:List Nat)(w:World)(v:Value):Prop:=(l=[]∧v= .pointer none)∨∃n g,l=[n]∧v= .pointer (some ⟨g,0,none⟩)∧N0≤g∧aH w g [.int k (n:Int)]
theorem eQ.m(h:eQ k N0 l w v)(h1:rb<N0)(h2:xb<N0)(e:am (fun k=>k≠rb∧k≠xb) w w'):eQ k N0 l w' v:=by
 rcases h with h|⟨n,g,h3,h4,h5,h6⟩
 ·exact .inl h
 ·exact .inr ⟨n,g,h3,h4,h5,h6.m e (by show g≠rb∧g≠xb;omega)⟩
theorem eQ.low(h:eQ k N1 l w v)(hN:N0≤N1):eQ k N0 l w v:=by
 rcases h with h|⟨n,g,h3,h4,h5,h6⟩
 ·exact .inl h
 ·exact .inr ⟨n,g,h3,h4,Nat.le_trans hN h5,h6⟩
section
variable {rb xb j:Nat} {wi:World} {cs:List Value} {y:V} {bs rest:List UInt8}
theorem tn(hN:N0≤wi.heap.size)(hf:wM 4 y l)(hn:∀n∈l,n<4294967296)(hE:g8 y bs)(hne:y.kind≠0)(hB:aH wi xb cs)(hl:j<cs.length)(hrx:rb<xb)(hR:Rd wi rb (bs++rest)):mI rb xb j wi cs rest (.iface 160 (.pointer (some ⟨xb,j,none⟩))) (eQ .u32 N0 l):=by
 rcases hf with⟨h,_⟩|⟨n,rfl,h1,h2,rfl⟩
 ·exact absurd h.1 hne
 ·obtain⟨c,data,rfl,hP⟩:=hE.pc h2
  exact(yo h1 (hn _ (by simp)) hP hB (by simpa[Nat.blt_eq]using hl) hrx hR).imp fun u w' ⟨a,⟨g,b1,b2,b3⟩,c,d⟩=>⟨a,⟨_,b2,.inr ⟨_,g,rfl,rfl,Nat.le_trans hN b1,b3⟩⟩,c,d⟩
theorem D9(hN:N0≤wi.heap.size)(hf:wM 2 y l)(hn:∀n∈l,n<256)(hE:g8 y bs)(hne:y.kind≠0)(hB:aH wi xb cs)(hl:j<cs.length)(hcs:cs[j]?=some (.pointer none))(hrx:rb<xb)(hR:Rd wi rb (bs++rest)):mI rb xb j wi cs rest (.iface 196 (.agg #[.pointer (some ⟨xb,j,none⟩)])) (eQ .u8 N0 l):=by
 rcases hf with⟨h,_⟩|⟨n,rfl,h1,h2,rfl⟩
 ·exact absurd h.1 hne
 ·obtain⟨c,data,rfl,hP⟩:=hE.pc h2
  exact(Ba h1 (hn _ (by simp)) hP hB (by simpa[Nat.blt_eq]using hl) hcs hrx hR).imp fun u w' ⟨a,⟨g,b1,b2,b3⟩,c,d⟩=>⟨a,⟨_,b2,.inr ⟨_,g,rfl,rfl,Nat.le_trans hN b1,b3⟩⟩,c,d⟩
theorem zO(hN:N0≤wi.heap.size)(hf:wN 18 y t)(hE:g8 y bs)(hne:y.kind≠0)(hB:aH wi xb cs)(hl:j<cs.length)(hrx:rb<xb)(hR:Rd wi rb (bs++rest)):mI rb xb j wi cs rest (.iface 64 (.pointer (some ⟨xb,j,none⟩))) (fun w v=>bT (fun b=>N0≤b) w v t):=by
 rcases hf with⟨h,_⟩|⟨h1,h2,rfl⟩
 ·exact absurd h.1 hne
 ·obtain⟨c,data,rfl,hP⟩:=hE.pc h2
  exact(ym h1 hP hB (by simpa[Nat.blt_eq]using hl) hrx hR).imp fun u w' ⟨a,⟨v,b1,b2⟩,c,d⟩=>⟨a,⟨_,b1,b2.k fun b _ h=>Nat.le_trans hN h⟩,c,d⟩
end
end Go.Proofs.LL
namespace Go.Proofs.LL
open Go Go.Proofs Go.RowKit
set_option maxHeartbeats 4000000
attribute [local irreducible] ar WL WC cq WT WX
theorem CU{ks:List V}{r:List UInt8}(hks:∀x∈ks,gl x)(hM:iI ks)(hEn:bw ks body)(hh:Hd 0xc1 0xd1 c hd ks.length body)(hX:aH w xb cs)(ho:Nat.blt off cs.length=true)(hne:rb<xb)(hR:Rd w rb (c::(hd++(body++r)))):
  ah TP 387 [.pointer (some ⟨xb,off,none⟩),.pointer (some ⟨rb,0,none⟩)] w fun u w'=>u= .nilIface∧(∃m l,aH w' xb (cs.set off (.map (some m)))∧w.heap.size≤m∧cT w' m l∧bB (fun b=>w.heap.size≤b) w' ks l)∧Rd w' rb r∧am (fun k=>k≠rb∧k≠xb) w w':=by
 have:=hX.lt
 have hle:=hh.le
 obtain⟨hev,hkeys,hnd⟩:=hM
 refine aR Tryz.func387 ?_
 refine uA 7 rfl<|Hm rfl (fo hh hR) fun w1 hR e1=>?_
 refine uD 10 rfl<|Hq (aB Fb.h rfl)<|uD 3 rfl<|uA 3 rfl<|Hq (s9 (by decide) rfl rfl)<|WL.l rfl (d8 Fo.h (fun o h=>by cases h;exact⟨_,_,rfl⟩)) ?_
 rintro v2 w2 ⟨rfl,hMo,e2⟩
 have:=hMo.lt
 have hx2:=e1.s
 refine uD 8 rfl ?_
 replace hR:=hR.m e2
 replace hX:=(hX.m e1).m e2
 refine WC.loop2 (ι:=Nat) [(0,_),(1,_),(4,_),(5,_),(7,_)] (fun i=>[(8,.int .u32 ((2 * i:Nat):Int))]) (fun i wi=>(∃l bi,cT wi w1.heap.size l∧2 * i≤ks.length∧bB (fun b=>w2.heap.size≤b) wi (ks.take (2 * i)) l∧bw (ks.drop (2 * i)) bi∧Rd wi rb (bi++r))∧am (fun k=>k<w2.heap.size∧k≠w1.heap.size∧k≠rb) w2 wi) (fun i=>ks.length-2 * i) 0 sb sb (⟨⟨[],body,hMo,Nat.zero_le _,by simp[bB],hEn,hR⟩,am.refl _⟩) ?_
 intro i wi1 hh;obtain⟨⟨l,bi,hMo,hi2,hV,hB,hR⟩,hE⟩:=hh
 have hvl:=hV.length
 have:=hE.s
 rcases Nat.lt_or_ge (2 * i) ks.length with hi|hi
 ·have hi1:2 * i+1<ks.length:=by omega
  rw[List.drop_eq_getElem_cons hi,List.drop_eq_getElem_cons hi1]at hB
  cases hB with
  |cons hB1 hB2=>
  cases hB2 with
  |cons hB2 hB3=>
  rename_i b1 b2 b3
  rw[List.append_assoc,List.append_assoc]at hR
  have hw:IntKind.u32.wrap (((2 * i:Nat):Int)+2)=((2 * (i+1):Nat):Int):=by
   rw[mR (by omega) (by omega)];omega
  have htk:ks.take (2 * (i+1))=ks.take (2 * i)++[ks[2 * i],ks[2 * i+1]]:=by
   rw[show 2 * (i+1)=2 * i+1+1 by omega,List.take_add_one,List.take_add_one,List.getElem?_eq_getElem hi1,List.getElem?_eq_getElem hi,List.append_assoc];rfl
  have hdr:ks.drop (2 * (i+1))=ks.drop (2 * i+1+1):=by rw[show 2 * (i+1)=2 * i+1+1 by omega]
  have hkm:ks[2 * i]∈aP ks:=List.mem_of_getElem? (dD i ks hi1)
  have hkk:=hkeys _ hkm
  refine uA 5 rfl<|lT rfl rfl<|uD 3 rfl<|uA 5 rfl<|cl rfl (hks _ (List.getElem_mem hi) _ _ _ _ hB1 hR) ?_
  rintro v3 w3 ⟨yk,rfl,hZK,hR,e3⟩
  have:=e3.s
  have hZV:=bB.m hV e3 (by intro b h1 h2;dsimp only[Nb];omega)
  refine uD 10 rfl<|Hq (aB Fb.h rfl)<|uD 3 rfl<|uA 3 rfl<|cl rfl (hks _ (List.getElem_mem hi1) _ _ _ _ hB2 hR) ?_
  rintro v4 w4 ⟨yv,rfl,hZW,hR,e4⟩
  have hy:=hZK.key hkk.1
  subst hy
  refine uD 10 rfl<|Hq (aB Fb.h rfl)<|uD 3 rfl<|uA 4 rfl ?_
  replace hMo:=(hMo.m e3).m e4
  refine WL.l0 (kY Fo.h rfl rfl rfl hMo (m6 (fU hkk.1) (fun e=>hkk.2.2.2.1 (by unfold rk at e;split at e<;>omega))) (nC Fb.h (fun e ch=>by obtain⟨j,hj,rfl⟩:=gU ch;obtain⟨x',hx',hr'⟩:=bB.keys hV _ (List.getElem_mem hj);rw[eK]at hx';have hx2:=hkeys _ (List.mem_of_mem_take hx');show kF _ _ _ l[j].1;rw[hr'.key hx2.1];exact y6 hkk.1 hx2.1 hkk.2 hx2.2 (kr hnd (dD i ks hi1) hx')))) ?_
  rintro v5 w5 ⟨hMo,e5⟩
  refine uD 3 rfl<|Hq (pD rfl rfl)<|uC 2 rfl ?_
  replace hZK:=(hZK.m e4).m e5
  replace hZV:=(hZV.m e4).m e5
  replace hZW:=hZW.m e5
  have hV2:=bB.snoc (by rw[List.length_take,Nat.min_eq_left (Nat.le_of_lt hi)];omega) hZV (hZK.k (B:=fun b=>w2.heap.size≤b) (fun b h=>by omega)) (hZW.k (B:=fun b=>w2.heap.size≤b) (fun b h=>by omega))
  rw[← htk]at hV2
  rw[← hdr]at hB3
  replace hR:=hR.m e5
  exact⟨i+1,sb,sb,⟨⟨_,_,hMo,by omega,hV2,hB3,hR⟩,((((hE.t e3).t e4).t e5))⟩,by omega⟩
 ·rw[List.drop_eq_nil_of_le hi]at hB
  cases hB
  rw[List.take_of_length_le hi]at hV
  refine uA 5 rfl<|lF rfl rfl<|uD 2 rfl<|WC.exit<|uA 5 rfl ?_
  replace hX:=hX.m hE
  refine WL.l0 (ce Fo.h rfl rfl rfl hX ho) ?_
  rintro _ w3 ⟨hX,e3,hz3⟩
  refine uD 5 rfl<|WC.ret ?_
  replace hR:=hR.m e3
  replace hMo:=hMo.m e3
  replace hV:=hV.m e3
  exact aw rfl ⟨rfl,⟨_,l,hX,by omega,hMo,bB.k hV (fun b h=>by omega)⟩,by simpa using hR,ch⟩
theorem Dc{ks:List V}{r:List UInt8}(hks:∀x∈ks,gl x)(hM:iI ks)(hEn:bw ks body)(hh:Hd 0xc1 0xd1 c hd ks.length body)(hX:aH w xb cs)(ho:Nat.blt off cs.length=true)(hne:rb<xb)(hR:Rd w rb (c::(hd++(body++r)))):
  ah TP 83 [.pointer (some ⟨rb,0,none⟩),.iface 460 (.pointer (some ⟨xb,off,none⟩))] w fun u w'=>u= .nilIface∧(∃m l,aH w' xb (cs.set off (.map (some m)))∧w.heap.size≤m∧cT w' m l∧bB (fun b=>w.heap.size≤b) w' ks l)∧Rd w' rb r∧am (fun k=>k≠rb∧k≠xb) w w':=by
 have:=hX.lt
 have hne64:c≠64:=by rcases hh with⟨_,_,rfl,_⟩|⟨_,_,_,_,_,_,_,_,rfl,_⟩<;>decide
 refine aR Tryz.func83 ?_
 refine uA 8 rfl<|Hl rfl (an hR hne64) fun w1 e1=>?_
 refine uD 3 rfl<|uA 281 rfl<|Hq (dc Fb.h rfl)<|uD 12 rfl ?_
 replace hR:=hR.m e1
 replace hX:=hX.m e1
 refine WL.l rfl (dI Fo.h Fb.h rfl rfl (CU hks hM hEn hh hX ho hne hR)) ?_
 rintro v2 w2 ⟨rfl,⟨m,l,hX,hm,hMo,hV⟩,hR,e2⟩
 refine uC 2 rfl<|WC.ret ?_
 exact aw rfl ⟨rfl,⟨m,l,hX,by have:=e1.s;omega,hMo,bB.k hV (fun b h=>by have:=e1.s;omega)⟩,hR,ch⟩
def iU(N0:Nat)(l:List V)(w:World)(v:Value):Prop:=(l=[]∧v= .map none)∨∃m kvs,v= .map (some m)∧N0≤m∧cT w m kvs∧bB (fun b=>N0≤b) w l kvs
theorem iU.m(h:iU N0 l w v)(h1:rb<N0)(h2:xb<N0)(e:am (fun k=>k≠rb∧k≠xb) w w'):iU N0 l w' v:=by
 rcases h with h|⟨m,kvs,h3,h4,h5,h6⟩
 ·exact .inl h
 ·exact .inr ⟨m,kvs,h3,h4,h5.m e (by show m≠rb∧m≠xb;omega),h6.m e (by intro b _ hb;show b≠rb∧b≠xb;omega)⟩
theorem iU.low(h:iU N1 l w v)(hN:N0≤N1):iU N0 l w v:=by
 rcases h with h|⟨m,kvs,h3,h4,h5,h6⟩
 ·exact .inl h
 ·exact .inr ⟨m,kvs,h3,Nat.le_trans hN h4,h5,bB.k h6 fun b h=>Nat.le_trans hN h⟩
theorem iU.ext(h:iU N0 l w v)(e:ay w w'):iU N0 l w' v:=by
 rcases h with h|⟨m,kvs,h3,h4,h5,h6⟩
 ·exact .inl h
 ·exact .inr ⟨m,kvs,h3,h4,h5.m e,h6.m e⟩
theorem D8{wi:World}{rest:List UInt8}(hN:N0≤wi.heap.size)(hf:ye y l)(hE:g8 y bs)(hne:y.kind≠0)(hB:aH wi xb cs)(hl:j<cs.length)(hrx:rb<xb)(hR:Rd wi rb (bs++rest)):mI rb xb j wi cs rest (.iface 460 (.pointer (some ⟨xb,j,none⟩))) (iU N0 l):=by
 rcases hf with⟨h,_⟩|⟨h1,h2,rfl,h3⟩
 ·exact absurd h.1 hne
 ·obtain⟨c,data,rfl,hP⟩:=hE.pc h2
  obtain⟨hd,body,rfl,hEl,hh⟩:=hP.mapI h1
  rw[List.cons_append,List.append_assoc]at hR
  exact(Dc (zJ h3) h3.2.1 hEl hh hB (by simpa[Nat.blt_eq]using hl) hrx hR).imp fun u w' ⟨a,⟨m,kvs,b1,b2,b3,b4⟩,c,d⟩=>⟨a,⟨_,b1,.inr ⟨m,kvs,rfl,Nat.le_trans hN b2,b3,bB.k b4 fun b h=>Nat.le_trans hN h⟩⟩,c,d⟩
end Go.Proofs.LL
namespace Go.Proofs.LL
open Go Go.Proofs Go.RowKit
set_option maxHeartbeats 4000000
attribute [local irreducible] ar WL WC cq WT WX
theorem C5{v:Value}{r:List UInt8}(hP:Pc (uV 36) cu du)(hh:di hd 0 [])(hR:Rd w rb (0::((cu::du)++(hd++([]++r))))):
  ah TP 228 [v,.pointer (some ⟨rb,0,none⟩)] w fun u w'=>u= .nilIface∧Rd w' rb r∧am (fun k=>k≠rb) w w':=by
 refine aR Tryz.func228 ?_
 refine uA 7 rfl<|Hm rfl (sw (x:=uV 36) rfl (by decide) hP hh rfl hR) fun w1 hR e1=>?_
 refine uC 2 rfl<|WC.ret ?_
 exact aw rfl ⟨rfl,hR,ch⟩
theorem C7{v:Value}{r:List UInt8}(hP:Pc (uV 38) cu du)(hh:di hd 0 [])(hR:Rd w rb (0::((cu::du)++(hd++([]++r))))):
  ah TP 232 [v,.pointer (some ⟨rb,0,none⟩)] w fun u w'=>u= .nilIface∧Rd w' rb r∧am (fun k=>k≠rb) w w':=by
 refine aR Tryz.func232 ?_
 refine uA 7 rfl<|Hm rfl (sw (x:=uV 38) rfl (by decide) hP hh rfl hR) fun w1 hR e1=>?_
 refine uC 2 rfl<|WC.ret ?_
 exact aw rfl ⟨rfl,hR,ch⟩
def ws(g:Nat):List (Value×Value):=[(.iface 105 (.pointer (some ⟨g,0,none⟩)),.func (.func 251) #[] #[]),(.iface 224 (.pointer (some ⟨g,1,none⟩)),.func (.func 252) #[] #[])]
def Gi(n o:Nat):Nat→World→Value→Prop
 |0,_,v=>v= .int .u32 (n:Int)
 |_+1,_,v=>v= .int .u64 (o:Int)
theorem tT{n o:Nat}{r:List UInt8}(hn:n<4294967296)(ho:o<18446744073709551616)(hP:Pc (uV 35) cu du)(hh:di hd 2 body)(hEn:bw [pv 4 n [],pv 5 o []] body)(hF:aH w fb (eV (ws g)))(hre:rb<g)(hef:fb≠g)(hrf:rb<fb)(hX:aH w g [.int .u32 0,.int .u64 0])(hR:Rd w rb (0::((cu::du)++(hd++(body++r))))):
  ah TP 55 [.pointer (some ⟨rb,0,none⟩),.int .u8 35,.slice (some ⟨fb,0,none⟩) 2 2] w fun u w'=>u= .nilIface∧aH w' g [.int .u32 (n:Int),.int .u64 (o:Int)]∧Rd w' rb r∧am (fun k=>k≠rb∧k≠g) w w':=by
 have h:=jQ (fs:=ws g) (n:=2) (zs:=[.int .u32 0,.int .u64 0]) (G:=Gi n o) (ks:=[pv 4 n [],pv 5 o []]) rfl (by decide) (by intro p hp;simp[ws]at hp;rcases hp with rfl|rfl<;>exact⟨rfl,rfl⟩) (by simp) (x:=uV 35) rfl (by decide) hP hh hEn hF hre hef hrf hX rfl
  (fun y hy h0=>by
   simp only[List.mem_cons,List.not_mem_nil,or_false]at hy
   rcases hy with rfl|rfl<;>rfl)
  (fun j v w1 w2 hw hg he=>by
   match j with
   |0=>exact hg
   |j+1=>exact hg)
  (fun j hj hj2 wi cs bs rest hwi hB hl hz hE hne hRd=>by
   match j,hj,hj2 with
   |0,_,_=>exact ww (d:=0) (.inr ⟨rfl,rfl,rfl⟩) hn hE hne hB (by omega) hre hRd
   |1,_,_=>exact zQ (d:=0) (.inr ⟨rfl,rfl,rfl⟩) ho hE hne hB (by omega) hre hRd
   |j+2,hj,_=>exact absurd hj (by simp))
  (fun j hj2 h0=>by
   match j,hj2 with
   |0,_=>exact absurd (h0 (by simp)) (by show¬((4:Int)=0);decide)
   |1,_=>exact absurd (h0 (by simp)) (by show¬((5:Int)=0);decide)
   |j+2,hj=>exact absurd hj (by simp[ws]))
  hR
 refine h.imp ?_
 rintro u w' ⟨h1,⟨vs,hl,hB,hg⟩,h3,h4⟩
 match vs,hl with
 |[v0,v1],_=>
  have e0:v0= .int .u32 (n:Int):=hg 0 v0 rfl
  have e1:v1= .int .u64 (o:Int):=hg 1 v1 rfl
  subst e0 e1
  exact⟨h1,hB,h3,h4⟩
theorem C9{n o:Nat}{r:List UInt8}(hn:n<4294967296)(ho:o<18446744073709551616)(hP:Pc (uV 35) cu du)(hh:di hd 2 body)(hEn:bw [pv 4 n [],pv 5 o []] body)(hre:rb<g)(hX:aH w g [.int .u32 0,.int .u64 0])(hR:Rd w rb (0::((cu::du)++(hd++(body++r))))):
  ah TP 230 [.pointer (some ⟨g,0,none⟩),.pointer (some ⟨rb,0,none⟩)] w fun u w'=>u= .nilIface∧aH w' g [.int .u32 (n:Int),.int .u64 (o:Int)]∧Rd w' rb r∧am (fun k=>k≠rb∧k≠g) w w':=by
 have:=hR.lt
 have:=hX.lt
 refine aR Tryz.func230 ?_
 have he:am (fun k=>k≠rb∧k≠g) w w:=am.refl w
 refine uA 4 rfl<|WC.seq<|WC.regionD (tt [0,1,2,3,4,5,6,7,8,9,10]++ff [11,12]++tt [13]) (am (fun k=>k≠rb∧k≠g) _) mixed (by kernel_rfl) Vd<|uE 5 rfl<|He (fun _ hS=>az (cs:=[_,_]) Fo.h rfl rfl)<|uE 4 rfl<|He (fun _ hS=>az (cs:=[_,_]) Fo.h rfl rfl) ?_
 replace he:=he.t Xd
 have:=he.s
 refine WD.l rfl rfl (ll [_,_]) ?_
 rintro _ w1 ⟨rfl,hb1,e1⟩
 refine⟨(Vd.t e1),?_⟩
 refine cd rfl (tT hn ho hP hh hEn hb1 hre (by omega) (by omega) ((hX.m Xd).m e1) ((hR.m Xd).m e1)) ?_
 rintro v2 w2 ⟨rfl,hX,hR,e2⟩
 refine⟨((Vd.t e1).t e2),?_⟩
 refine uE 1 rfl<|WD.nil<|WC.ret ?_
 replace he:=(he.t e1).t e2
 exact aw rfl ⟨rfl,hX,hR,he⟩
theorem tU{ks:List V}{l:List (List UInt8×List UInt8×List V)}{r:List UInt8}(hlen:ks.length≤1)(hK:yd (bA ks 0) l)(hP:Pc (uV 37) cu du)(hh:di hd ks.length body)(hEn:bw ks body)(hF:aH w fb (eV (vP xb)))(hre:rb<xb)(hef:fb≠xb)(hrf:rb<fb)(hX:aH w xb [.pointer none])(hR:Rd w rb (0::((cu::du)++(hd++(body++r))))):
  ah TP 55 [.pointer (some ⟨rb,0,none⟩),.int .u8 37,.slice (some ⟨fb,0,none⟩) 1 1] w fun u w'=>u= .nilIface∧(∃v,aH w' xb [v]∧iX w.heap.size l w' v)∧Rd w' rb r∧am (fun k=>k≠rb∧k≠xb) w w':=by
 have hr0:=hR.lt
 have he0:=hX.lt
 have h:=jQ (fs:=vP xb) (n:=1) (zs:=[.pointer none]) (G:=fun _=>iX w.heap.size l) rfl (by decide) (by intro p hp;simp[vP]at hp;rcases hp with rfl;exact⟨rfl,rfl⟩) hlen (x:=uV 37) rfl (by decide) hP hh hEn hF hre hef hrf hX rfl
  (fun y hy h0=>by
   obtain⟨j,hj,rfl⟩:=List.mem_iff_getElem.1 hy
   rw[bW hj]at h0⊢
   match j,hj with
   |0,_=>
    rcases hK with h|⟨c,d,i,_,h1,_⟩
    ·exact h.1.2
    ·rw[h1]at h0;exact absurd h0 (by decide)
   |j+1,hj=>omega)
  (fun j v w1 w2 hw hg he=>iX.m hg hr0 he0 he)
  (fun j hj hj2 wi cs bs rest hwi hB hl hz hE hne hRd=>by
   rw[bW hj]at hE hne
   match j,hj,hj2 with
   |0,_,_=>exact BX hwi hK hE hne hB (by omega) hz hre hRd
   |j+1,hj,_=>omega)
  (fun j hj2 h0=>by
   have hn:=rf h0
   match j,hj2 with
   |0,_=>
    refine .inl ⟨rfl,fun wi v _ hv=>?_⟩
    rcases hK with h|⟨c,d,i,_,h1,_⟩
    ·have:v= .pointer none:=by simpa using hv.symm
     exact .inl ⟨h.2,this⟩
    ·rw[h1]at hn;exact absurd hn (by decide)
   |j+1,hj=>exact absurd hj (by simp[vP]))
  hR
 refine h.imp ?_
 rintro u w' ⟨h1,⟨vs,hl,hB,hg⟩,h3,h4⟩
 match vs,hl with
 |[v0],_=>exact⟨h1,⟨v0,hB,hg 0 v0 rfl⟩,h3,h4⟩
theorem C6{ks:List V}{r:List UInt8}(hlen:ks.length≤1)(hK:yd (bA ks 0) l)(hP:Pc (uV 37) cu du)(hh:di hd ks.length body)(hEn:bw ks body)(hre:rb<g)(hX:aH w g [.pointer none])(hR:Rd w rb (0::((cu::du)++(hd++(body++r))))):
  ah TP 231 [.pointer (some ⟨g,0,none⟩),.pointer (some ⟨rb,0,none⟩)] w fun u w'=>u= .nilIface∧(∃v,aH w' g [v]∧iX w.heap.size l w' v)∧Rd w' rb r∧am (fun k=>k≠rb∧k≠g) w w':=by
 have:=hR.lt
 have:=hX.lt
 refine aR Tryz.func231 ?_
 have he:am (fun k=>k≠rb∧k≠g) w w:=am.refl w
 refine uA 10 rfl<|Hl rfl (wQ) fun w1 e1=>?_
 refine Hq (az (cs:=[_,_]) Fo.h rfl rfl) ?_
 replace he:=he.t e1
 have:=he.s
 refine WL.l rfl (ll [_]) ?_
 rintro _ w2 ⟨rfl,hb2,e2⟩
 replace hR:=(hR.m e1).m e2
 replace hX:=(hX.m e1).m e2
 refine cl rfl (tU hlen hK hP hh hEn hb2 hre (by have:=e1.s;omega) (by have:=e1.s;omega) hX hR) ?_
 rintro v3 w3 ⟨rfl,⟨vm,hX,hG⟩,hR,e3⟩
 refine uC 2 rfl<|WC.ret ?_
 replace he:=(he.t e2).t e3
 exact aw rfl ⟨rfl,⟨vm,hX,hG.low (by have:=e1.s;have:=e2.s;omega)⟩,hR,he⟩
def wn(g:Nat):List (Value×Value):=[(.iface 65 (.pointer (some ⟨g,0,none⟩)),.nilFunc),(.iface 65 (.pointer (some ⟨g,1,none⟩)),.nilFunc),(.iface 460 (.pointer (some ⟨g,2,none⟩)),.nilFunc)]
def Gf(N0:Nat)(f e:Bool)(l:List V):Nat→World→Value→Prop
 |0,_,v=>v= .bool (f.toNat !=0)
 |1,_,v=>v= .bool (e.toNat !=0)
 |_+2,w,v=>iU N0 l w v
theorem tr(b:Bool):(b.toNat !=0)=b:=by cases b<;>rfl
theorem tS{f e:Bool}{r:List UInt8}(hA:ic l)(hP:Pc (uV 39) cu du)(hh:di hd 3 body)(hEn:bw [pv 1 f.toNat [],pv 1 e.toNat [],mV l] body)(hF:aH w fb (eV (wn g)))(hre:rb<g)(hef:fb≠g)(hrf:rb<fb)(hX:aH w g [.bool false,.bool false,.map none])(hR:Rd w rb (0::((cu::du)++(hd++(body++r))))):
  ah TP 55 [.pointer (some ⟨rb,0,none⟩),.int .u8 39,.slice (some ⟨fb,0,none⟩) 3 3] w fun u w'=>u= .nilIface∧(∃vm,aH w' g [.bool f,.bool e,vm]∧iU w.heap.size l w' vm)∧Rd w' rb r∧am (fun k=>k≠rb∧k≠g) w w':=by
 have hr0:=hR.lt
 have he0:=hX.lt
 have hM:ye (mV l) l:=s6 hA (.inl rfl)
 have h:=jQ (fs:=wn g) (n:=3) (zs:=[.bool false,.bool false,.map none]) (G:=Gf w.heap.size f e l) (ks:=[pv 1 f.toNat [],pv 1 e.toNat [],mV l]) rfl (by decide) (by intro p hp;simp[wn]at hp;rcases hp with rfl|rfl|rfl<;>exact⟨rfl,rfl⟩) (by simp) (x:=uV 39) rfl (by decide) hP hh hEn hF hre hef hrf hX rfl
  (fun y hy h0=>by
   simp only[List.mem_cons,List.not_mem_nil,or_false]at hy
   rcases hy with rfl|rfl|rfl
   ·rfl
   ·rfl
   ·rcases hM with h|h
    ·exact h.1.2
    ·exact h.2.1)
  (fun j v w1 w2 hw hg he=>by
   match j with
   |0=>exact hg
   |1=>exact hg
   |j+2=>exact iU.m hg hr0 he0 he)
  (fun j hj hj2 wi cs bs rest hwi hB hl hz hE hne hRd=>by
   match j,hj,hj2 with
   |0,_,_=>exact iE (d:=0) (.inr ⟨rfl,rfl,rfl⟩) hE hne hB (by omega) hre hRd
   |1,_,_=>exact iE (d:=0) (.inr ⟨rfl,rfl,rfl⟩) hE hne hB (by omega) hre hRd
   |2,_,_=>exact D8 hwi hM hE hne hB (by omega) hre hRd
   |j+3,hj,_=>exact absurd hj (by simp))
  (fun j hj2 h0=>by
   match j,hj2 with
   |0,_=>exact absurd (h0 (by simp)) (by show¬((1:Int)=0);decide)
   |1,_=>exact absurd (h0 (by simp)) (by show¬((1:Int)=0);decide)
   |2,_=>
    refine .inl ⟨rfl,fun wi v _ hv=>?_⟩
    have hn:(mV l).kind=0:=h0 (by simp)
    rcases hM with h|h
    ·have:v= .map none:=by simpa using hv.symm
     exact .inl ⟨h.2,this⟩
    ·rw[h.1]at hn;exact absurd hn (by decide)
   |j+3,hj=>exact absurd hj (by simp[wn]))
  hR
 refine h.imp ?_
 rintro u w' ⟨h1,⟨vs,hl,hB,hg⟩,h3,h4⟩
 match vs,hl with
 |[v0,v1,v2],_=>
  have e0:v0= .bool (f.toNat !=0):=hg 0 v0 rfl
  have e1:v1= .bool (e.toNat !=0):=hg 1 v1 rfl
  rw[tr]at e0 e1
  subst e0 e1
  exact⟨h1,⟨v2,hB,hg 2 v2 rfl⟩,h3,h4⟩
theorem C8{f e:Bool}{r:List UInt8}(hA:ic l)(hP:Pc (uV 39) cu du)(hh:di hd 3 body)(hEn:bw [pv 1 f.toNat [],pv 1 e.toNat [],mV l] body)(hre:rb<g)(hX:aH w g [.bool false,.bool false,.map none])(hR:Rd w rb (0::((cu::du)++(hd++(body++r))))):
  ah TP 229 [.pointer (some ⟨g,0,none⟩),.pointer (some ⟨rb,0,none⟩)] w fun u w'=>u= .nilIface∧(∃vm,aH w' g [.bool f,.bool e,vm]∧iU w.heap.size l w' vm)∧Rd w' rb r∧am (fun k=>k≠rb∧k≠g) w w':=by
 have:=hR.lt
 have:=hX.lt
 refine aR Tryz.func229 ?_
 have he:am (fun k=>k≠rb∧k≠g) w w:=am.refl w
 refine uA 4 rfl<|WC.seq<|WC.regionD (tt [0,1,2,3,4,5,6,7,8,9,10,11,12,13,14,15]++ff [16,17]++tt [18]) (am (fun k=>k≠rb∧k≠g) _) mixed (by kernel_rfl) Vd<|uE 5 rfl<|He (fun _ hS=>az (cs:=[_,_]) Fo.h rfl rfl)<|uE 4 rfl<|He (fun _ hS=>az (cs:=[_,_]) Fo.h rfl rfl)<|uE 4 rfl<|He (fun _ hS=>az (cs:=[_,_]) Fo.h rfl rfl) ?_
 replace he:=he.t Xd
 have:=he.s
 refine WD.l rfl rfl (ll [_,_,_]) ?_
 rintro _ w1 ⟨rfl,hb1,e1⟩
 refine⟨(Vd.t e1),?_⟩
 refine cd rfl (tS hA hP hh hEn hb1 hre (by omega) (by omega) ((hX.m Xd).m e1) ((hR.m Xd).m e1)) ?_
 rintro v2 w2 ⟨rfl,⟨vm,hX,hG⟩,hR,e2⟩
 refine⟨((Vd.t e1).t e2),?_⟩
 refine uE 1 rfl<|WD.nil<|WC.ret ?_
 replace he:=(he.t e1).t e2
 exact aw rfl ⟨rfl,⟨vm,hX,hG.low e1.s⟩,hR,he⟩
end Go.Proofs.LL
namespace Go.Proofs.LL
open Go Go.Proofs Go.RowKit
set_option maxHeartbeats 4000000
attribute [local irreducible] ar WL WC cq WT WX
theorem C1{b:UInt8}{r:List UInt8}(hI:bT A w data (0::0x53::b::r)):
  ah TP 134 [data] w fun u w'=>u= .tuple #[.int .u8 (b.toNat:Int),.int .u8 3,.nilIface]∧ay w w':=by
 obtain⟨pb,po,cp,rfl,hc,hA,hD⟩:=hI.open (by simp)
 have hl:(0::0x53::b::r).length=r.length+3:=by simp only[List.length_cons]
 have d0:=hD.get 0 (by simp)
 have d1:=hD.get 1 (by simp)
 have d2:=hD.get 2 (by simp)
 simp only[List.getElem_cons_zero,List.getElem_cons_succ]at d0 d1 d2
 refine F9 Tryz.func134 ?_
 refine uA 11 rfl<|lF rfl rfl<|uD 3 rfl<|uA 4 rfl<|Hq (dX Fo.h rfl rfl rfl)<|Hq (ao Fb.h rfl Xr d0)<|uD 4 rfl<|uA 3 rfl<|Hq (dX Fo.h rfl rfl rfl)<|Hq (ao Fb.h rfl Xr d1)<|uD 21 rfl<|Hq (cK (l:=2) Fo.h rfl rfl rfl (by omega))<|uC 1 rfl<|Hq (ae (ak rfl rfl) (bk (by(omega))))<|uD 3 rfl<|uA 3 rfl<|Hq (dX Fo.h rfl rfl rfl)<|Hq (ao Fb.h rfl Xr d2)<|uC 4 rfl<|WC.ret ?_
 exact DG rfl rfl rfl ⟨rfl,ch⟩
theorem C2{a b c d e f g h:UInt8}{r:List UInt8}(hI:bT A w data (0::0x80::a::b::c::d::e::f::g::h::r)):
  ah TP 134 [data] w fun u w'=>u= .tuple #[.int .u8 (IntKind.u8.wrap ((be [a,b,c,d,e,f,g,h]:Nat):Int)),.int .u8 10,.nilIface]∧ay w w':=by
 obtain⟨pb,po,cp,rfl,hc,hA,hD⟩:=hI.open (by simp)
 have hl:(0::0x80::a::b::c::d::e::f::g::h::r).length=r.length+10:=by simp only[List.length_cons]
 have d0:=hD.get 0 (by simp)
 have d1:=hD.get 1 (by simp)
 have hZ1:=hI.cut 2 8 (by omega)
 simp only[List.getElem_cons_zero,List.getElem_cons_succ]at d0 d1
 simp only[List.drop_zero,List.take_succ_cons,List.take_zero,List.drop_succ_cons]at hZ1
 refine F9 Tryz.func134 ?_
 refine uA 11 rfl<|lF rfl rfl<|uD 3 rfl<|uA 4 rfl<|Hq (dX Fo.h rfl rfl rfl)<|Hq (ao Fb.h rfl Xr d0)<|uD 4 rfl<|uA 3 rfl<|Hq (dX Fo.h rfl rfl rfl)<|Hq (ao Fb.h rfl Xr d1)<|uD 30 rfl<|Hq (cK (l:=2) Fo.h rfl rfl rfl (by omega))<|uC 1 rfl<|lF rfl rfl<|uD 3 rfl<|WC.seq<|WC.regionD (tt [0,1,2]++ff [3]++tt [4]) (ay _) mixed (by kernel_rfl) Xd<|He (fun _ hS=>ad Fo.h rfl hS At.nil)<|uE 1 rfl<|He (fun _ hS=>fJ Fo.h rfl rfl rfl (l:=2) (h:=10) rfl rfl (by omega) (by omega))<|cd rfl (lD (r:=[]) (hZ1.m Xd)) ?_
 rintro v1 w1 ⟨rfl,e1⟩
 refine⟨LL.ch,?_⟩
 refine uE 1 rfl<|WD.nil<|uA 3 rfl<|Hq (aL Fo.h rfl)<|uC 4 rfl<|WC.ret ?_
 exact DG rfl rfl rfl ⟨rfl,ch⟩
end Go.Proofs.LL
namespace Go.Proofs.LL
open Go Go.Proofs Go.RowKit
set_option maxHeartbeats 4000000
attribute [local irreducible] ar WL WC cq WT WX
theorem FP{n:Nat}(h:n<256):IntKind.u8.wrap (n:Int)=(n:Int):=by
 simp only[IntKind.wrap,IntKind.bits,IntKind.signed]
 simp;omega
theorem kG{n:Nat}{r:List UInt8}(hn:0<n∧n<256)(hP:Pc (uV n) cu du)(hI:bT A w data (0::((cu::du)++r))):
  ah TP 134 [data] w fun u w'=>∃k,u= .tuple #[.int .u8 (n:Int),.int .u8 k,.nilIface]∧ay w w':=by
 unfold uV at hP
 cases hP
 case num s hc=>
  obtain⟨rfl,rfl⟩:=eA hc (c':=0x80) (s':=8) rfl
  refine(C2 (show bT A w data (0::0x80::UInt8.ofNat (n>>>(8 * 7))::UInt8.ofNat (n>>>(8 * 6))::UInt8.ofNat (n>>>(8 * 5))::UInt8.ofNat (n>>>(8 * 4))::UInt8.ofNat (n>>>(8 * 3))::UInt8.ofNat (n>>>(8 * 2))::UInt8.ofNat (n>>>(8 * 1))::UInt8.ofNat (n>>>(8 * 0))::r)from hI)).imp fun u w' ⟨h1,h2⟩=>⟨10,?_,h2⟩
  have e:be [UInt8.ofNat (n>>>(8 * 7)),UInt8.ofNat (n>>>(8 * 6)),UInt8.ofNat (n>>>(8 * 5)),UInt8.ofNat (n>>>(8 * 4)),UInt8.ofNat (n>>>(8 * 3)),UInt8.ofNat (n>>>(8 * 2)),UInt8.ofNat (n>>>(8 * 1)),UInt8.ofNat (n>>>(8 * 0))]=n:=(ew n 8).trans (Nat.mod_eq_of_lt (by omega))
  rw[h1,e,FP hn.2]
 case ulong0=>exact absurd hn.1 (by omega)
 case ulong1 h=>
  refine(C1 (show bT A w data (0::0x53::UInt8.ofNat (n>>>(8 * 0))::r)from hI)).imp fun u w' ⟨h1,h2⟩=>⟨3,?_,h2⟩
  rw[h1,uH h]
theorem Dg{g:Nat}{r:List UInt8}(hP:Pc (uV 36) cu du)(hh:di hd 0 [])(hR:Rd w rb (0::((cu::du)++(hd++([]++r))))):
  ah TP 83 [.pointer (some ⟨rb,0,none⟩),.iface 295 (.pointer (some ⟨g,0,none⟩))] w fun u w'=>u= .nilIface∧Rd w' rb r∧am (fun k=>k≠rb) w w':=by
 refine aR Tryz.func83 ?_
 refine uA 8 rfl<|Hl rfl (an hR (by decide)) fun w1 e1=>?_
 refine uD 3 rfl<|uA 281 rfl<|Hq (dc Fb.h rfl)<|uD 12 rfl ?_
 replace hR:=hR.m e1
 refine WL.l rfl (dI Fo.h Fb.h rfl rfl (C5 hP hh hR)) ?_
 rintro v2 w2 ⟨rfl,hR,e2⟩
 refine uC 2 rfl<|WC.ret ?_
 exact aw rfl ⟨rfl,hR,ch⟩
theorem Di{g:Nat}{r:List UInt8}(hP:Pc (uV 38) cu du)(hh:di hd 0 [])(hR:Rd w rb (0::((cu::du)++(hd++([]++r))))):
  ah TP 83 [.pointer (some ⟨rb,0,none⟩),.iface 308 (.pointer (some ⟨g,0,none⟩))] w fun u w'=>u= .nilIface∧Rd w' rb r∧am (fun k=>k≠rb) w w':=by
 refine aR Tryz.func83 ?_
 refine uA 8 rfl<|Hl rfl (an hR (by decide)) fun w1 e1=>?_
 refine uD 3 rfl<|uA 281 rfl<|Hq (dc Fb.h rfl)<|uD 12 rfl ?_
 replace hR:=hR.m e1
 refine WL.l rfl (dI Fo.h Fb.h rfl rfl (C7 hP hh hR)) ?_
 rintro v2 w2 ⟨rfl,hR,e2⟩
 refine uC 2 rfl<|WC.ret ?_
 exact aw rfl ⟨rfl,hR,ch⟩
theorem Df{n o:Nat}{r:List UInt8}(hn:n<4294967296)(ho:o<18446744073709551616)(hP:Pc (uV 35) cu du)(hh:di hd 2 body)(hEn:bw [pv 4 n [],pv 5 o []] body)(hre:rb<g)(hX:aH w g [.int .u32 0,.int .u64 0])(hR:Rd w rb (0::((cu::du)++(hd++(body++r))))):
  ah TP 83 [.pointer (some ⟨rb,0,none⟩),.iface 303 (.pointer (some ⟨g,0,none⟩))] w fun u w'=>u= .nilIface∧aH w' g [.int .u32 (n:Int),.int .u64 (o:Int)]∧Rd w' rb r∧am (fun k=>k≠rb∧k≠g) w w':=by
 have:=hX.lt
 refine aR Tryz.func83 ?_
 refine uA 8 rfl<|Hl rfl (an hR (by decide)) fun w1 e1=>?_
 refine uD 3 rfl<|uA 281 rfl<|Hq (dc Fb.h rfl)<|uD 12 rfl ?_
 replace hR:=hR.m e1
 replace hX:=hX.m e1
 refine WL.l rfl (dI Fo.h Fb.h rfl rfl (C9 hn ho hP hh hEn hre hX hR)) ?_
 rintro v2 w2 ⟨rfl,hX,hR,e2⟩
 refine uC 2 rfl<|WC.ret ?_
 exact aw rfl ⟨rfl,hX,hR,ch⟩
theorem Dh{ks:List V}{r:List UInt8}(hlen:ks.length≤1)(hK:yd (bA ks 0) l)(hP:Pc (uV 37) cu du)(hh:di hd ks.length body)(hEn:bw ks body)(hre:rb<g)(hX:aH w g [.pointer none])(hR:Rd w rb (0::((cu::du)++(hd++(body++r))))):
  ah TP 83 [.pointer (some ⟨rb,0,none⟩),.iface 306 (.pointer (some ⟨g,0,none⟩))] w fun u w'=>u= .nilIface∧(∃v,aH w' g [v]∧iX w.heap.size l w' v)∧Rd w' rb r∧am (fun k=>k≠rb∧k≠g) w w':=by
 have:=hX.lt
 refine aR Tryz.func83 ?_
 refine uA 8 rfl<|Hl rfl (an hR (by decide)) fun w1 e1=>?_
 refine uD 3 rfl<|uA 281 rfl<|Hq (dc Fb.h rfl)<|uD 12 rfl ?_
 replace hR:=hR.m e1
 replace hX:=hX.m e1
 refine WL.l rfl (dI Fo.h Fb.h rfl rfl (C6 hlen hK hP hh hEn hre hX hR)) ?_
 rintro v2 w2 ⟨rfl,⟨vm,hX,hG⟩,hR,e2⟩
 refine uC 2 rfl<|WC.ret ?_
 exact aw rfl ⟨rfl,⟨vm,hX,hG.low e1.s⟩,hR,ch⟩
theorem Dj{f e:Bool}{r:List UInt8}(hA:ic l)(hP:Pc (uV 39) cu du)(hh:di hd 3 body)(hEn:bw [pv 1 f.toNat [],pv 1 e.toNat [],mV l] body)(hre:rb<g)(hX:aH w g [.bool false,.bool false,.map none])(hR:Rd w rb (0::((cu::du)++(hd++(body++r))))):
  ah TP 83 [.pointer (some ⟨rb,0,none⟩),.iface 298 (.pointer (some ⟨g,0,none⟩))] w fun u w'=>u= .nilIface∧(∃vm,aH w' g [.bool f,.bool e,vm]∧iU w.heap.size l w' vm)∧Rd w' rb r∧am (fun k=>k≠rb∧k≠g) w w':=by
 have:=hX.lt
 refine aR Tryz.func83 ?_
 refine uA 8 rfl<|Hl rfl (an hR (by decide)) fun w1 e1=>?_
 refine uD 3 rfl<|uA 281 rfl<|Hq (dc Fb.h rfl)<|uD 12 rfl ?_
 replace hR:=hR.m e1
 replace hX:=hX.m e1
 refine WL.l rfl (dI Fo.h Fb.h rfl rfl (C8 hA hP hh hEn hre hX hR)) ?_
 rintro v2 w2 ⟨rfl,⟨vm,hX,hG⟩,hR,e2⟩
 refine uC 2 rfl<|WC.ret ?_
 exact aw rfl ⟨rfl,⟨vm,hX,hG.low e1.s⟩,hR,ch⟩
def vM(N0:Nat)(s:gF)(w:World)(v:Value):Prop:=
 ∃g,N0≤g∧((s.code=35∧v= .iface 303 (.pointer (some ⟨g,0,none⟩))∧aH w g [.int .u32 (s.num:Int),.int .u64 (s.off:Int)])∨(s.code=36∧v= .iface 295 (.pointer (some ⟨g,0,none⟩)))∨(s.code=37∧v= .iface 306 (.pointer (some ⟨g,0,none⟩))∧∃u,aH w g [u]∧iX N0 s.flt w u)∨(s.code=38∧v= .iface 308 (.pointer (some ⟨g,0,none⟩)))∨(s.code=39∧v= .iface 298 (.pointer (some ⟨g,0,none⟩))∧∃u,aH w g [.bool s.fail,.bool s.els,u]∧iU N0 s.ann w u))
theorem yn{r:List UInt8}(hok:kH s)(hA:ia s)(hP:Pc (uV s.code) cu du)(hh:di hd (lZ s).length body)(hEn:bw ((lZ s).map (·.1)) body)(hX:aH w xb cs)(ho:Nat.blt off cs.length=true)(hne:rb<xb)(hR:Rd w rb (0::((cu::du)++(hd++(body++r))))):
  ah TP 83 [.pointer (some ⟨rb,0,none⟩),.iface 164 (.pointer (some ⟨xb,off,none⟩))] w fun u w'=>u= .nilIface∧(∃v,aH w' xb (cs.set off v)∧vM w.heap.size s w' v)∧Rd w' rb r∧am (fun k=>k≠rb∧k≠xb) w w':=by
 have:=hX.lt
 obtain⟨code,num,of',flt,fail,els,ann⟩:=s
 obtain⟨c1,c2,c3,c4⟩:=hok
 obtain⟨d1,d2,d3,d4⟩:=hA
 dsimp only at c1 c2 c3 c4 d1 d2 d3 d4 hP
 rcases(show code=35∨code=36∨code=37∨code=38∨code=39 by omega)with rfl|rfl|rfl|rfl|rfl
 ·replace hh:di hd 2 body:=hh
  replace hEn:bw [pv 4 num [],pv 5 of' []] body:=hEn
  refine aR Tryz.func83 ?_
  refine uA 8 rfl<|Hl rfl (an hR (by decide)) fun w1 e1=>?_
  have ns1:=e1.s
  refine uD 3 rfl<|uA 267 rfl<|Hq (aQ Fb.h rfl)<|uD 11 rfl ?_
  replace hR:=hR.m e1
  refine cl rfl (dN hR) ?_
  rintro v2 w2 ⟨qBy,e2⟩
  have ns2:=e2.s
  refine cl rfl (kG (n:=35) (by decide) hP qBy) ?_
  rintro v3 w3 ⟨k,rfl,e3⟩
  have ns3:=e3.s
  refine uD 12 rfl<|Hq (aB Fb.h rfl)<|uD 3 rfl<|uA 26 rfl<|Ha fun w4 hb4 e4=>?_
  have nx4:=hb4.lt
  have ns4:=e4.s
  refine uC 2 rfl ?_
  replace hX:=(((hX.m e1).m e2).m e3).m e4
  refine WL.l0 (ce Fo.h rfl rfl rfl hX ho) ?_
  rintro _ w5 ⟨hX,e5,hz5⟩
  have ns5:=e5.s
  refine uD 6 rfl<|Hq (ao Fb.h rfl Xr (hX.get (iD ho))) ?_
  replace hR:=(((hR.m e2).m e3).m e4).m e5
  replace hb4:=hb4.m e5
  refine cl rfl (Df c2 c3 hP hh hEn (by omega) hb4 hR) ?_
  rintro v6 w6 ⟨rfl,hb4,hR,e6⟩
  have ns6:=e6.s
  refine uC 2 rfl<|WC.ret ?_
  replace hX:=hX.m e6
  exact aw rfl ⟨rfl,⟨_,hX,_,(by omega),.inl ⟨rfl,rfl,hb4⟩⟩,hR,ch⟩
 ·replace hh:di hd 0 body:=hh
  replace hEn:bw [] body:=hEn
  cases hEn
  refine aR Tryz.func83 ?_
  refine uA 8 rfl<|Hl rfl (an hR (by decide)) fun w1 e1=>?_
  have ns1:=e1.s
  refine uD 3 rfl<|uA 267 rfl<|Hq (aQ Fb.h rfl)<|uD 11 rfl ?_
  replace hR:=hR.m e1
  refine cl rfl (dN hR) ?_
  rintro v2 w2 ⟨qBy,e2⟩
  have ns2:=e2.s
  refine cl rfl (kG (n:=36) (by decide) hP qBy) ?_
  rintro v3 w3 ⟨k,rfl,e3⟩
  have ns3:=e3.s
  refine uD 12 rfl<|Hq (aB Fb.h rfl)<|uD 3 rfl<|uA 14 rfl<|Ha fun w4 hb4 e4=>?_
  have nx4:=hb4.lt
  have ns4:=e4.s
  refine uC 2 rfl ?_
  replace hX:=(((hX.m e1).m e2).m e3).m e4
  refine WL.l0 (ce Fo.h rfl rfl rfl hX ho) ?_
  rintro _ w5 ⟨hX,e5,hz5⟩
  have ns5:=e5.s
  refine uD 6 rfl<|Hq (ao Fb.h rfl Xr (hX.get (iD ho))) ?_
  replace hR:=(((hR.m e2).m e3).m e4).m e5
  refine Hm rfl (Dg hP hh hR) fun w6 hR e6=>?_
  have ns6:=e6.s
  refine uC 2 rfl<|WC.ret ?_
  replace hX:=hX.m e6
  exact aw rfl ⟨rfl,⟨_,hX,_,(by omega),.inr (.inl ⟨rfl,rfl⟩)⟩,hR,ch⟩
 ·replace hh:di hd 1 body:=hh
  replace hEn:bw [dg flt] body:=hEn
  have hKf:=s0 c4 (fun f hf=>(d3 f hf).1.1) (y:=dg flt) (.inl rfl)
  refine aR Tryz.func83 ?_
  refine uA 8 rfl<|Hl rfl (an hR (by decide)) fun w1 e1=>?_
  have ns1:=e1.s
  refine uD 3 rfl<|uA 267 rfl<|Hq (aQ Fb.h rfl)<|uD 11 rfl ?_
  replace hR:=hR.m e1
  refine cl rfl (dN hR) ?_
  rintro v2 w2 ⟨qBy,e2⟩
  have ns2:=e2.s
  refine cl rfl (kG (n:=37) (by decide) hP qBy) ?_
  rintro v3 w3 ⟨k,rfl,e3⟩
  have ns3:=e3.s
  refine uD 12 rfl<|Hq (aB Fb.h rfl)<|uD 3 rfl<|uA 32 rfl<|Ha fun w4 hb4 e4=>?_
  have nx4:=hb4.lt
  have ns4:=e4.s
  refine uC 2 rfl ?_
  replace hX:=(((hX.m e1).m e2).m e3).m e4
  refine WL.l0 (ce Fo.h rfl rfl rfl hX ho) ?_
  rintro _ w5 ⟨hX,e5,hz5⟩
  have ns5:=e5.s
  refine uD 6 rfl<|Hq (ao Fb.h rfl Xr (hX.get (iD ho))) ?_
  replace hR:=(((hR.m e2).m e3).m e4).m e5
  replace hb4:=hb4.m e5
  refine cl rfl (Dh (ks:=[dg flt]) (by simp) hKf hP hh hEn (by omega) hb4 hR) ?_
  rintro v6 w6 ⟨rfl,⟨vm,hb4,hG⟩,hR,e6⟩
  have ns6:=e6.s
  refine uC 2 rfl<|WC.ret ?_
  replace hX:=hX.m e6
  exact aw rfl ⟨rfl,⟨_,hX,_,(by omega),.inr (.inr (.inl ⟨rfl,rfl,vm,hb4,hG.low (by omega)⟩))⟩,hR,ch⟩
 ·replace hh:di hd 0 body:=hh
  replace hEn:bw [] body:=hEn
  cases hEn
  refine aR Tryz.func83 ?_
  refine uA 8 rfl<|Hl rfl (an hR (by decide)) fun w1 e1=>?_
  have ns1:=e1.s
  refine uD 3 rfl<|uA 267 rfl<|Hq (aQ Fb.h rfl)<|uD 11 rfl ?_
  replace hR:=hR.m e1
  refine cl rfl (dN hR) ?_
  rintro v2 w2 ⟨qBy,e2⟩
  have ns2:=e2.s
  refine cl rfl (kG (n:=38) (by decide) hP qBy) ?_
  rintro v3 w3 ⟨k,rfl,e3⟩
  have ns3:=e3.s
  refine uD 12 rfl<|Hq (aB Fb.h rfl)<|uD 3 rfl<|uA 38 rfl<|Ha fun w4 hb4 e4=>?_
  have nx4:=hb4.lt
  have ns4:=e4.s
  refine uC 2 rfl ?_
  replace hX:=(((hX.m e1).m e2).m e3).m e4
  refine WL.l0 (ce Fo.h rfl rfl rfl hX ho) ?_
  rintro _ w5 ⟨hX,e5,hz5⟩
  have ns5:=e5.s
  refine uD 6 rfl<|Hq (ao Fb.h rfl Xr (hX.get (iD ho))) ?_
  replace hR:=(((hR.m e2).m e3).m e4).m e5
  refine Hm rfl (Di hP hh hR) fun w6 hR e6=>?_
  have ns6:=e6.s
  refine uC 2 rfl<|WC.ret ?_
  replace hX:=hX.m e6
  exact aw rfl ⟨rfl,⟨_,hX,_,(by omega),.inr (.inr (.inr (.inl ⟨rfl,rfl⟩)))⟩,hR,ch⟩
 ·replace hh:di hd 3 body:=hh
  replace hEn:bw [pv 1 fail.toNat [],pv 1 els.toNat [],mV ann] body:=hEn
  refine aR Tryz.func83 ?_
  refine uA 8 rfl<|Hl rfl (an hR (by decide)) fun w1 e1=>?_
  have ns1:=e1.s
  refine uD 3 rfl<|uA 267 rfl<|Hq (aQ Fb.h rfl)<|uD 11 rfl ?_
  replace hR:=hR.m e1
  refine cl rfl (dN hR) ?_
  rintro v2 w2 ⟨qBy,e2⟩
  have ns2:=e2.s
  refine cl rfl (kG (n:=39) (by decide) hP qBy) ?_
  rintro v3 w3 ⟨k,rfl,e3⟩
  have ns3:=e3.s
  refine uD 12 rfl<|Hq (aB Fb.h rfl)<|uD 3 rfl<|uA 20 rfl<|Ha fun w4 hb4 e4=>?_
  have nx4:=hb4.lt
  have ns4:=e4.s
  refine uC 2 rfl ?_
  replace hX:=(((hX.m e1).m e2).m e3).m e4
  refine WL.l0 (ce Fo.h rfl rfl rfl hX ho) ?_
  rintro _ w5 ⟨hX,e5,hz5⟩
  have ns5:=e5.s
  refine uD 6 rfl<|Hq (ao Fb.h rfl Xr (hX.get (iD ho))) ?_
  replace hR:=(((hR.m e2).m e3).m e4).m e5
  replace hb4:=hb4.m e5
  refine cl rfl (Dj (d4 rfl).1.1 hP hh hEn (by omega) hb4 hR) ?_
  rintro v6 w6 ⟨rfl,⟨vm,hb4,hG⟩,hR,e6⟩
  have ns6:=e6.s
  refine uC 2 rfl<|WC.ret ?_
  replace hX:=hX.m e6
  exact aw rfl ⟨rfl,⟨_,hX,_,(by omega),.inr (.inr (.inr (.inr ⟨rfl,rfl,vm,hb4,hG.low (by omega)⟩)))⟩,hR,ch⟩
end Go.Proofs.LL
namespace Go.Proofs.LL
open Go Go.Proofs Go.RowKit
set_option maxHeartbeats 4000000
attribute [local irreducible] ar WL WC cq WT WX
theorem iX.ext(h:iX N0 l w v)(e:ay w w'):iX N0 l w' v:=by
 rcases h with h|⟨c,d,i,g,vm,h3,h4,h5,h6,h7⟩
 ·exact .inl h
 ·exact .inr ⟨c,d,i,g,vm,h3,h4,h5,h6.m e,h7.ext e⟩
theorem uM:ah TP 142 [.map none] w fun r w'=>r= .tuple #[.slice none 0 0,.bool true]∧ay w w':=by
 refine cN Tryz.func142 ?_
 have he:=Hi w
 refine uA 7 rfl ?_
 have:=he.s
 refine Ha fun w1 hb1 e1=>?_
 have:=hb1.lt
 have:=e1.s
 refine uD 5 rfl<|WL.l rfl (sN Fo.h rfl) ?_
 rintro v2 w2 ⟨rfl,hI,e2⟩
 have:=e1.s
 have:=e2.s
 have:=e2.s
 refine uD 2 rfl ?_
 replace hb1:=hb1.m e2
 replace he:=(he.t e1).t e2
 refine WC.loop2 (ι:=Nat) [(2,_),(3,_),(4,_),(17,_)] (fun i=>[]) (fun i wi=>(Ci wi w1.heap.size∧aH wi w.heap.size [.slice none 0 0])∧am (fun b=>b<w.heap.size) w2 wi) (fun i=>0) 0 sb .nil (⟨⟨hI,hb1⟩,am.refl _⟩) ?_
 intro i wi1 hh;obtain⟨⟨hI,hb1⟩,hE⟩:=hh
 have:=hE.s
 refine uA 2 rfl<|WL.l rfl (wk rfl hI) ?_
 rintro v3 w3 ⟨rfl,e3⟩
 have:=e3.s
 refine uD 4 rfl<|WC.exit<|uA 2 rfl ?_
 replace hb1:=hb1.m e3
 refine ld rfl hb1 rfl<|uC 1 rfl<|Hq (nV rfl rfl)<|cl rfl (lp (rows:=[]) (B:=w2.heap.size) (aT.nil _ _ _ _) hb1 (by omega) (by simp)) ?_
 rintro v4 w4 ⟨rfl,⟨rows',hpr,hS⟩,e4⟩
 have e4o:=e4
 replace e4:=aT.evo (w0:=w) (aT.nil w2.heap.size 423 13 _) e4o
 have:=e4.s
 refine uD 8 rfl ?_
 replace hb1:=hb1.m e4
 refine ld rfl hb1 rfl<|uD 4 rfl ?_
 replace he:=((he.t hE).t e3).t e4
 refine WC.loop2 (ι:=Nat) [(2,_),(3,_),(4,_),(17,_),(60,_),(61,_)] (fun i=>[(13,.slice none 0 0),(62,.int .i64 0)]) (fun i wi=>am (fun b=>b<w.heap.size) w4 wi) (fun i=>0) 0 sb sb Vr ?_
 intro i wi2 hh;have hE:=hh
 refine uA 2 rfl<|Hq (ae (ef rfl rfl) (decide_eq_false (by(decide))))<|uD 3 rfl<|WC.exit<|uA 6 rfl<|WC.ret ?_
 replace he:=he.t hE
 exact bt rfl rfl ⟨rfl,he.k fun k hk _=>hk⟩
theorem cE.conv{R R':V→V→Prop}:∀ {es:List iW} {ps:List (V×V)},cE R es ps→(∀e∈es,∀a,R e.1 a→R' e.1 a)→cE R' es ps
 |[],_,h,_=>by cases h;exact .nil
 |(k,v,c)::r,_,h,hR=>by
  cases h with
  |cons h1 h2 h3=>exact .cons (hR (k,v,c) (by simp) _ h1) h2 (cE.conv h3 fun e he=>hR e (by simp[he]))
theorem r4(hA:fH l)(hk:∀x∈aP l,x.kind=20)(hUT:UT w)(h:iU N0 l w v):
  ah TP 142 [v] w fun r w'=>∃sv ys,r= .tuple #[sv,.bool true]∧cM (fun b=>w.heap.size≤b) w' ys.length sv (ag (fun b=>w.heap.size≤b) w' ys)∧gk 19 l ys∧ay w w':=by
 obtain⟨⟨hF,⟨hM1,hM2,hM3⟩,hK⟩,hT,hle⟩:=hA
 rcases h with⟨rfl,rfl⟩|⟨m,kvs,rfl,_,hM,hS⟩
 ·exact uM.imp fun r w' ⟨h1,h2⟩=>⟨_,[],h1,cM.nil,⟨[],rfl,[],[],.nil,.refl _,rfl⟩,h2⟩
 ·obtain⟨es,rfl,rfl,hRE⟩:=bB.ents hS hM1 (fun x hx=>(hM2 x hx).1)
  rw[eI]at hle
  have hVe:∀e∈es,fO e.2.1:=fun e he=>m0 _ hF hT _ (bX he).1
  have hKe:∀e∈es,dV e.1.kind∧bI e.1∧(e.1.kind=19∨e.1.kind=20→Lib.validD e.1.text=true):=fun e he=>by
   have hm:=(bX he).2
   have ht:=hT.mem _ (fj hm)
   refine⟨(hM2 _ hm).1,(hM2 _ hm).2,?_⟩
   obtain⟨⟨k,n,t,ks,o,d⟩,v,c⟩:=e
   rw[ng]at ht
   exact ht.1
  refine(sX (w:=w) hVe hKe hUT hRE (by omega) hM).imp fun r w' ⟨sv,qs,h1,h2,⟨es',h3,h4⟩,h5⟩=>?_
  obtain⟨ps,h6,h7⟩:=h4.perm h3
  refine⟨sv,_,h1,h2,⟨es,rfl,ps,qs,h6.conv fun e he a ha=>?_,h7,rfl⟩,h5⟩
  have hm:=(bX he).2
  have hn:e.1.num=0:=(hM2 _ hm).2.2.2.2.2.2 (.inr (by have:=hk _ hm;omega))
  rw[ha,hk _ hm,hn]
  rfl
theorem yQ(h:eQ .u32 N0 l w v):ah TP 73 [v] w fun r w'=>dT .u32 (fun b=>w.heap.size≤b) w' l r∧ay w w':=by
 rcases h with⟨rfl,rfl⟩|⟨n,g,rfl,rfl,_,hB⟩
 ·refine aR Tryz.func73 ?_
  have he:=XI w
  refine uA 8 rfl<|Hq (iB Fb.h rfl rfl)<|uD 6 rfl<|WC.ret ?_
  exact aw rfl ⟨dT.nil,he⟩
 ·refine aR Tryz.func73 ?_
  have he:=XI w
  refine uA 8 rfl<|Hq (nU Fb.h rfl rfl)<|uD 3 rfl<|uA 4 rfl<|ld rfl hB rfl ?_
  have:=he.s
  refine WL.l rfl (ll [_]) ?_
  rintro _ w1 ⟨rfl,hb1,e1⟩
  refine uC 2 rfl<|WC.ret ?_
  replace he:=he.t e1
  exact aw rfl ⟨dT.at1 hb1 (Nat.le_refl _),he⟩
theorem wR:ah TP 71 [.pointer p] w fun u w'=>u= .iface 196 (.agg #[.pointer p])∧ay w w':=by
 refine aR Tryz.func71 ?_
 refine WC.seq<|WC.region<|Hq (ap rfl)<|WL.nil<|WC.seq<|WC.region<|Hq (aq rfl)<|Hq (az (cs:=[_]) Fo.h rfl rfl)<|Hq (lW Fb.h rfl)<|Hq (ap rfl)<|WL.nil<|WC.ret ?_
 exact aw rfl ⟨rfl,ch⟩
theorem xV(hok:kH s)(hA:ia s)(hUT:UT w)(h:vM N0 s w v):
  ah TP 94 [v] w fun r w'=>∃s' a0 a1 a2 a3 a4 a5 a6,r= .tuple #[.agg #[a0,a1,a2,a3,a4,a5,a6],.bool true]∧j9 (fun b=>w.heap.size≤b) w' s' [a0,a1,a2,a3,a4,a5,a6]∧Da s s'∧kH s'∧ay w w':=by
 obtain⟨code,num,off,flt,fail,els,ann⟩:=s
 obtain⟨c1,c2,c3,c4⟩:=hok
 obtain⟨d1,d2,d3,d4⟩:=hA
 obtain⟨g,hg,h⟩:=h
 dsimp only at c1 c2 c3 c4 d1 d2 d3 d4 h
 rcases h with⟨rfl,rfl,hB⟩|⟨rfl,rfl⟩|⟨rfl,rfl,u,hB,hE0⟩|⟨rfl,rfl⟩|⟨rfl,rfl,u,hB,hG0⟩
 ·have hgl:=hB.lt
  refine co Tryz.func94 ?_
  have he:=Hi w
  refine uA 2 rfl ?_
  have hs1:=he.s
  refine Ha fun w1 hb1 e1=>?_
  have nx1:=hb1.lt
  have ns1:=e1.s
  refine uD 10 rfl<|Hq (aQ Fb.h rfl)<|uD 8 rfl ?_
  replace hB:=hB.m e1
  refine WC.seq<|WC.regionD (tt [0,1,2,3,4,5,6,7,8]++ff [9]++tt [10]) (am (fun b=>b≠w.heap.size) _) mixed (by kernel_rfl) Vd ?_
  have nd1w1:w1.drew.heap.size=w1.heap.size:=rfl
  refine uE 3 rfl<|dl rfl hB rfl<|uE 3 rfl<|dl rfl hB rfl<|He (fun _ hS=>az (cs:=[_,_,_,_,_,_,_]) Fo.h rfl rfl) ?_
  replace hb1:=hb1.m Xd
  refine WD.l0 rfl (bj rfl rfl hb1) ?_
  rintro _ w2 ⟨hb1,e2,hz2⟩
  have ns2:=e2.s
  refine⟨(Vd.t e2),?_⟩
  refine uE 1 rfl<|WD.nil<|WC.ret ?_
  replace he:=((he.t e1).t Xd).t e2
  exact cw rfl hb1 kL rfl ⟨⟨35,num,off,[],false,false,[]⟩,_,_,_,_,_,_,_,rfl,⟨_,none,0,rfl,⟨none,0,rfl,fun _=>⟨none,0,rfl,Nat.le_refl _,.inl rfl⟩⟩,cM.nil⟩,⟨rfl,fun _=>⟨rfl,rfl⟩,fun h=>(by have h:(35:Nat)=37:=h;omega),fun h=>(by have h:(35:Nat)=39:=h;omega)⟩,⟨(by show 35≤35∧35≤39;omega),c2,c3,(by show([]:List mH).length≤1;simp)⟩,he.k fun k hk _=>hk⟩
 ·refine co Tryz.func94 ?_
  have he:=Hi w
  refine uA 2 rfl ?_
  have hs1:=he.s
  refine Ha fun w1 hb1 e1=>?_
  have nx1:=hb1.lt
  have ns1:=e1.s
  refine uD 17 rfl<|Hq (aQ Fb.h rfl)<|uD 10 rfl<|Hq (az (cs:=[_,_,_,_,_,_,_]) Fo.h rfl rfl)<|Ho rfl rfl hb1 fun w2 hb1 e2 hz2=>?_
  have ns2:=e2.s
  refine uC 2 rfl<|WC.ret ?_
  replace he:=he.t (e1.t e2)
  exact cw rfl hb1 kL rfl ⟨⟨36,0,0,[],false,false,[]⟩,_,_,_,_,_,_,_,rfl,⟨_,none,0,rfl,⟨none,0,rfl,fun _=>⟨none,0,rfl,Nat.le_refl _,.inl rfl⟩⟩,cM.nil⟩,⟨rfl,fun h=>(by have h:(36:Nat)=35:=h;omega),fun h=>(by have h:(36:Nat)=37:=h;omega),fun h=>(by have h:(36:Nat)=39:=h;omega)⟩,⟨(by show 35≤36∧36≤39;omega),(by show 0<4294967296;omega),(by show 0<18446744073709551616;omega),(by show([]:List mH).length≤1;simp)⟩,he.k fun k hk _=>hk⟩
 ·have hgl:=hB.lt
  refine co Tryz.func94 ?_
  have he:=Hi w
  refine uA 2 rfl ?_
  have hs1:=he.s
  refine Ha fun w1 hb1 e1=>?_
  have nx1:=hb1.lt
  have ns1:=e1.s
  refine uD 24 rfl<|Hq (aQ Fb.h rfl)<|uD 13 rfl ?_
  replace hB:=hB.m e1
  refine ld rfl hB rfl ?_
  replace hUT:=hUT.m e1
  refine cl rfl (xu (fun f hf=>(d3 f hf).1) hUT (hE0.ext e1)) ?_
  rintro v2 w2 ⟨fv,rfl,hF,e2⟩
  obtain⟨l',hZF,h6⟩:=hF.flt
  have h7:=hZF.ex
  obtain⟨pf,cf,h8,_⟩:=h7
  subst h8
  have ns2:=e2.s
  refine uD 9 rfl<|Hq (az (cs:=[_,_,_,_,_,_,_]) Fo.h rfl rfl)<|uC 1 rfl ?_
  replace hb1:=hb1.m e2
  refine Ho rfl rfl hb1 fun w3 hb1 e3 hz3=>?_
  have ns3:=e3.s
  refine uC 2 rfl<|WC.ret ?_
  have h9:l'.length≤1:=by rcases h6 with⟨_,rfl⟩|⟨_,_,_,_,_,rfl,_⟩<;>simp
  replace hZF:=hZF.m e3
  have hX:kE (fun b=>w.heap.size≤b) w3 l' _:=hZF.lowW fun b _ h=>by omega
  replace he:=((he.t e1).t e2).t e3
  exact cw rfl hb1 kL rfl ⟨⟨37,0,0,l',false,false,[]⟩,_,_,_,_,_,_,_,rfl,⟨_,none,0,rfl,⟨pf,cf,rfl,fun _=>hX⟩,cM.nil⟩,⟨rfl,fun h=>(by have h:(37:Nat)=35:=h;omega),fun _=>h6,fun h=>(by have h:(37:Nat)=39:=h;omega)⟩,⟨(by show 35≤37∧37≤39;omega),(by show 0<4294967296;omega),(by show 0<18446744073709551616;omega),h9⟩,he.k fun k hk _=>hk⟩
 ·refine co Tryz.func94 ?_
  have he:=Hi w
  refine uA 2 rfl ?_
  have hs1:=he.s
  refine Ha fun w1 hb1 e1=>?_
  have nx1:=hb1.lt
  have ns1:=e1.s
  refine uD 31 rfl<|Hq (aQ Fb.h rfl)<|uD 10 rfl<|Hq (az (cs:=[_,_,_,_,_,_,_]) Fo.h rfl rfl)<|Ho rfl rfl hb1 fun w2 hb1 e2 hz2=>?_
  have ns2:=e2.s
  refine uC 2 rfl<|WC.ret ?_
  replace he:=he.t (e1.t e2)
  exact cw rfl hb1 kL rfl ⟨⟨38,0,0,[],false,false,[]⟩,_,_,_,_,_,_,_,rfl,⟨_,none,0,rfl,⟨none,0,rfl,fun _=>⟨none,0,rfl,Nat.le_refl _,.inl rfl⟩⟩,cM.nil⟩,⟨rfl,fun h=>(by have h:(38:Nat)=35:=h;omega),fun h=>(by have h:(38:Nat)=37:=h;omega),fun h=>(by have h:(38:Nat)=39:=h;omega)⟩,⟨(by show 35≤38∧38≤39;omega),(by show 0<4294967296;omega),(by show 0<18446744073709551616;omega),(by show([]:List mH).length≤1;simp)⟩,he.k fun k hk _=>hk⟩
 ·have hgl:=hB.lt
  have hW:=d4 rfl
  refine co Tryz.func94 ?_
  have he:=Hi w
  refine uA 2 rfl ?_
  have hs1:=he.s
  refine Ha fun w1 hb1 e1=>?_
  have nx1:=hb1.lt
  have ns1:=e1.s
  refine uD 38 rfl<|Hq (aQ Fb.h rfl)<|uD 13 rfl ?_
  replace hB:=hB.m e1
  refine ld rfl hB rfl ?_
  replace hUT:=hUT.m e1
  refine cl rfl (r4 hW.1 hW.2.2 hUT (hG0.ext e1)) ?_
  rintro v2 w2 ⟨sv,ys,rfl,hK,hBk,e2⟩
  have hK0:=hK
  obtain⟨p2,c2',_,hsv,_⟩:=hK0
  subst hsv
  have ns2:=e2.s
  refine uC 6 rfl ?_
  replace hB:=hB.m e2
  replace hUT:=hUT.m e2
  replace hb1:=hb1.m e2
  refine WC.seq<|WC.regionD (tt [0,1,2,3,4,5,6,7,8,9,10]++ff [11]++tt [12]) (am (fun b=>b≠w.heap.size) _) mixed (by kernel_rfl) Vd ?_
  have nd1w2:w2.drew.heap.size=w2.heap.size:=rfl
  refine uE 3 rfl<|dl rfl hB rfl<|uE 3 rfl<|dl rfl hB rfl<|uE 1 rfl<|He (fun _ hS=>az (cs:=[_,_,_,_,_,_,_]) Fo.h rfl rfl)<|uE 1 rfl ?_
  replace hb1:=hb1.m Xd
  refine WD.l0 rfl (bj rfl rfl hb1) ?_
  rintro _ w3 ⟨hb1,e3,hz3⟩
  have ns3:=e3.s
  refine⟨(Vd.t e3),?_⟩
  refine uE 1 rfl<|WD.nil<|WC.ret ?_
  replace hK:=(hK.m Xd).m e3
  replace he:=(((he.t e1).t e2).t Xd).t e3
  exact cw rfl hb1 kL rfl ⟨⟨39,0,0,[],fail,els,ys⟩,_,_,_,_,_,_,_,rfl,⟨_,_,_,rfl,⟨none,0,rfl,fun _=>⟨none,0,rfl,Nat.le_refl _,.inl rfl⟩⟩,hK.low fun b h=>by omega⟩,⟨rfl,fun h=>(by have h:(39:Nat)=35:=h;omega),fun h=>(by have h:(39:Nat)=37:=h;omega),fun _=>⟨rfl,rfl,hBk⟩⟩,⟨(by show 35≤39∧39≤39;omega),(by show 0<4294967296;omega),(by show 0<18446744073709551616;omega),(by show([]:List mH).length≤1;simp)⟩,he.k fun k hk _=>hk⟩
end Go.Proofs.LL
namespace Go.Proofs.LL
open Go Go.Proofs Go.RowKit
set_option maxHeartbeats 4000000
attribute [local irreducible] ar WL WC cq WT WX
def CV(y:V)(l:List gF):Prop:=(kp y∧l=[])∨∃s,l=[s]∧y.kind=21∧y.desc=[uV s.code]∧y.kids=(lZ s).map (·.1)
def jS(N0:Nat)(l:List gF)(w:World)(v:Value):Prop:=(l=[]∧v= .nilIface)∨∃s,l=[s]∧vM N0 s w v
theorem vM.m(h:vM N0 s w v)(h1:rb<N0)(h2:xb<N0)(e:am (fun k=>k≠rb∧k≠xb) w w'):vM N0 s w' v:=by
 obtain⟨g,hg,h⟩:=h
 have hq:g≠rb∧g≠xb:=by omega
 refine⟨g,hg,?_⟩
 rcases h with⟨a,b,c⟩|⟨a,b⟩|⟨a,b,u,c,d⟩|⟨a,b⟩|⟨a,b,u,c,d⟩
 ·exact .inl ⟨a,b,c.m e hq⟩
 ·exact .inr (.inl ⟨a,b⟩)
 ·exact .inr (.inr (.inl ⟨a,b,u,c.m e hq,d.m h1 h2 e⟩))
 ·exact .inr (.inr (.inr (.inl ⟨a,b⟩)))
 ·exact .inr (.inr (.inr (.inr ⟨a,b,u,c.m e hq,d.m h1 h2 e⟩)))
theorem vM.low(h:vM N1 s w v)(hN:N0≤N1):vM N0 s w v:=by
 obtain⟨g,hg,h⟩:=h
 refine⟨g,Nat.le_trans hN hg,?_⟩
 rcases h with h|h|⟨a,b,u,c,d⟩|h|⟨a,b,u,c,d⟩
 ·exact .inl h
 ·exact .inr (.inl h)
 ·exact .inr (.inr (.inl ⟨a,b,u,c,d.low hN⟩))
 ·exact .inr (.inr (.inr (.inl h)))
 ·exact .inr (.inr (.inr (.inr ⟨a,b,u,c,d.low hN⟩)))
theorem vM.ext(h:vM N0 s w v)(e:ay w w'):vM N0 s w' v:=by
 obtain⟨g,hg,h⟩:=h
 refine⟨g,hg,?_⟩
 rcases h with⟨a,b,c⟩|h|⟨a,b,u,c,d⟩|h|⟨a,b,u,c,d⟩
 ·exact .inl ⟨a,b,c.m e⟩
 ·exact .inr (.inl h)
 ·exact .inr (.inr (.inl ⟨a,b,u,c.m e,d.ext e⟩))
 ·exact .inr (.inr (.inr (.inl h)))
 ·exact .inr (.inr (.inr (.inr ⟨a,b,u,c.m e,d.ext e⟩)))
theorem jS.m(h:jS N0 l w v)(h1:rb<N0)(h2:xb<N0)(e:am (fun k=>k≠rb∧k≠xb) w w'):jS N0 l w' v:=h.imp id fun⟨s,a,b⟩=>⟨s,a,b.m h1 h2 e⟩
theorem jS.low(h:jS N1 l w v)(hN:N0≤N1):jS N0 l w v:=h.imp id fun⟨s,a,b⟩=>⟨s,a,b.low hN⟩
theorem jS.ext(h:jS N0 l w v)(e:ay w w'):jS N0 l w' v:=h.imp id fun⟨s,a,b⟩=>⟨s,a,b.ext e⟩
theorem eQ.ext(h:eQ k N0 l w v)(e:ay w w'):eQ k N0 l w' v:=h.imp id fun⟨n,g,a,b,c,d⟩=>⟨n,g,a,b,c,d.m e⟩
theorem zP{wi:World}{rest:List UInt8}(hN:N0≤wi.heap.size)(hf:CV y l)(hok:∀s∈l,kH s)(hA:∀s∈l,ia s)(hE:g8 y bs)(hne:y.kind≠0)(hB:aH wi xb cs)(hl:j<cs.length)(hrx:rb<xb)(hR:Rd wi rb (bs++rest)):mI rb xb j wi cs rest (.iface 164 (.pointer (some ⟨xb,j,none⟩))) (jS N0 l):=by
 rcases hf with⟨h,_⟩|⟨s,rfl,h1,h2,h3⟩
 ·exact absurd h.1 hne
 ·obtain⟨cu,du,hd,body,rfl,hP,hEl,hL⟩:=hE.comp h1 h2 rfl
  rw[h3]at hEl hL
  rw[List.length_map]at hL
  have hR2:Rd wi rb (0::((cu::du)++(hd++(body++rest)))):=by simpa[List.append_assoc]using hR
  exact(yn (hok s (by simp)) (hA s (by simp)) hP hL hEl hB (by simpa[Nat.blt_eq]using hl) hrx hR2).imp fun u w' ⟨a,⟨v,b1,b2⟩,c,d⟩=>⟨a,⟨v,b1,.inr ⟨s,rfl,b2.low hN⟩⟩,c,d⟩
structure FR (ks:List V) (x:Xf):Prop where
 len:ks.length≤11
 f0:(bA ks 0).kind=4∧(bA ks 0).desc=[]∧(bA ks 0).num=x.hdl
 f1:wM 4 (bA ks 1) x.did
 f2:wN 18 (bA ks 2) x.tag
 f3:wM 4 (bA ks 3) x.fmt
 f4:pS 1 (bA ks 4) x.stl.toNat 0
 f5:pS 1 (bA ks 5) x.more.toNat 0
 f6:wM 2 (bA ks 6) x.rm
 f7:CV (bA ks 7) x.st
 f8:pS 1 (bA ks 8) x.res.toNat 0
 f9:pS 1 (bA ks 9) x.abo.toNat 0
 f10:pS 1 (bA ks 10) x.bat.toNat 0
def Cf(g:Nat):List (Value×Value):=[(.iface 105 (.pointer (some ⟨g,0,none⟩)),.func (.func 69) #[] #[]),(.iface 160 (.pointer (some ⟨g,1,none⟩)),.nilFunc),(.iface 64 (.pointer (some ⟨g,2,none⟩)),.nilFunc),(.iface 160 (.pointer (some ⟨g,3,none⟩)),.nilFunc),(.iface 65 (.pointer (some ⟨g,4,none⟩)),.nilFunc),(.iface 65 (.pointer (some ⟨g,5,none⟩)),.nilFunc),(.iface 196 (.agg #[.pointer (some ⟨g,6,none⟩)]),.nilFunc),(.iface 164 (.pointer (some ⟨g,7,none⟩)),.nilFunc),(.iface 65 (.pointer (some ⟨g,8,none⟩)),.nilFunc),(.iface 65 (.pointer (some ⟨g,9,none⟩)),.nilFunc),(.iface 65 (.pointer (some ⟨g,10,none⟩)),.nilFunc)]
def GG(N0:Nat)(x:Xf):Nat→World→Value→Prop
 |0,_,v=>v= .int .u32 (x.hdl:Int)
 |1,w,v=>eQ .u32 N0 x.did w v
 |2,w,v=>bT (fun b=>N0≤b) w v x.tag
 |3,w,v=>eQ .u32 N0 x.fmt w v
 |4,_,v=>v= .bool (x.stl.toNat !=0)
 |5,_,v=>v= .bool (x.more.toNat !=0)
 |6,w,v=>eQ .u8 N0 x.rm w v
 |7,w,v=>jS N0 x.st w v
 |8,_,v=>v= .bool (x.res.toNat !=0)
 |9,_,v=>v= .bool (x.abo.toNat !=0)
 |_+10,_,v=>v= .bool (x.bat.toNat !=0)
def wI:List Value:=[.int .u32 0,.pointer none,.slice none 0 0,.pointer none,.bool false,.bool false,.pointer none,.nilIface,.bool false,.bool false,.bool false,.slice none 0 0]
theorem xc{r:List UInt8}(hok:kK x)(hA:∀s∈x.st,ia s)(hK:FR ks x)(hP:Pc (uV 20) cu du)(hh:di hd ks.length body)(hEn:bw ks body)(hF:aH w fb (eV (Cf xb)))(hre:rb<xb)(hef:fb≠xb)(hrf:rb<fb)(hX:aH w xb wI)(hR:Rd w rb (0::((cu::du)++(hd++(body++r))))):
  ah TP 55 [.pointer (some ⟨rb,0,none⟩),.int .u8 20,.slice (some ⟨fb,0,none⟩) 11 11] w fun u w'=>u= .nilIface∧(∃v1 v2 v3 v6 v7,aH w' xb [.int .u32 (x.hdl:Int),v1,v2,v3,.bool x.stl,.bool x.more,v6,v7,.bool x.res,.bool x.abo,.bool x.bat,.slice none 0 0]∧eQ .u32 w.heap.size x.did w' v1∧bT (fun b=>w.heap.size≤b) w' v2 x.tag∧eQ .u32 w.heap.size x.fmt w' v3∧eQ .u8 w.heap.size x.rm w' v6∧jS w.heap.size x.st w' v7)∧Rd w' rb r∧am (fun k=>k≠rb∧k≠xb) w w':=by
 have hr0:=hR.lt
 have he0:=hX.lt
 have h:=vi (J:=fun _=>True) trivial (fun _ _ _ _=>trivial) (fs:=Cf xb) (n:=11) (m:=12) (zs:=wI) (G:=GG w.heap.size x) rfl (by decide) (by intro p hp;simp[Cf]at hp;rcases hp with rfl|rfl|rfl|rfl|rfl|rfl|rfl|rfl|rfl|rfl|rfl<;>exact⟨rfl,rfl⟩) hK.len (x:=uV 20) rfl (by decide) hP hh hEn hF hre hef hrf hX rfl (by omega)
  (fun y hy h0=>by
   obtain⟨j,hj,rfl⟩:=List.mem_iff_getElem.1 hy
   have hj3:=hK.len
   rw[bW hj]at h0⊢
   match j,hj with
   |0,_=>exact hK.f0.2.1
   |1,_=>rcases hK.f1 with h|⟨n,_,_,h,_⟩;exact h.1.2;exact h
   |2,_=>rcases hK.f2 with h|h;exact h.1.2;exact h.2.1
   |3,_=>rcases hK.f3 with h|⟨n,_,_,h,_⟩;exact h.1.2;exact h
   |4,_=>rcases hK.f4 with h|h;exact h.1.2;exact h.2.1
   |5,_=>rcases hK.f5 with h|h;exact h.1.2;exact h.2.1
   |6,_=>rcases hK.f6 with h|⟨n,_,_,h,_⟩;exact h.1.2;exact h
   |7,_=>
    rcases hK.f7 with h|⟨s,_,h1,_⟩
    ·exact h.1.2
    ·rw[h1]at h0;exact absurd h0 (by decide)
   |8,_=>rcases hK.f8 with h|h;exact h.1.2;exact h.2.1
   |9,_=>rcases hK.f9 with h|h;exact h.1.2;exact h.2.1
   |10,_=>rcases hK.f10 with h|h;exact h.1.2;exact h.2.1
   |j+11,hj=>omega)
  (fun j v w1 w2 hw hg he=>by
   match j with
   |0=>exact hg
   |1=>exact eQ.m hg hr0 he0 he
   |2=>exact bT.m hg he (by intro b _ hb;show b≠rb∧b≠xb;have:w.heap.size≤b:=hb;omega)
   |3=>exact eQ.m hg hr0 he0 he
   |4=>exact hg
   |5=>exact hg
   |6=>exact eQ.m hg hr0 he0 he
   |7=>exact jS.m hg hr0 he0 he
   |8=>exact hg
   |9=>exact hg
   |j+10=>exact hg)
  (fun j hj hj2 wi cs bs rest hwi hB hl hz hE hne hRd=>by
   have hj3:=hK.len
   rw[bW hj]at hE hne
   match j,hj,hj2 with
   |0,_,_=>exact ww (d:=0) (.inr hK.f0) hok.hdl hE hne hB (by omega) hre hRd
   |1,_,_=>exact tn hwi hK.f1 hok.did.2 hE hne hB (by omega) hre hRd
   |2,_,_=>exact zO hwi hK.f2 hE hne hB (by omega) hre hRd
   |3,_,_=>exact tn hwi hK.f3 hok.fmt.2 hE hne hB (by omega) hre hRd
   |4,_,_=>exact iE hK.f4 hE hne hB (by omega) hre hRd
   |5,_,_=>exact iE hK.f5 hE hne hB (by omega) hre hRd
   |6,_,_=>exact D9 hwi hK.f6 hok.rm.2 hE hne hB (by omega) hz hre hRd
   |7,_,_=>exact zP hwi hK.f7 hok.st.2 hA hE hne hB (by omega) hre hRd
   |8,_,_=>exact iE hK.f8 hE hne hB (by omega) hre hRd
   |9,_,_=>exact iE hK.f9 hE hne hB (by omega) hre hRd
   |10,_,_=>exact iE hK.f10 hE hne hB (by omega) hre hRd
   |j+11,hj,_=>omega)
  (fun j hj2 h0=>by
   have hn:=rf h0
   match j,hj2 with
   |0,_=>rw[hK.f0.1]at hn;exact absurd hn (by decide)
   |1,_=>
    refine .inl ⟨rfl,fun wi v _ hv=>?_⟩
    have e:v= .pointer none:=by simpa[wI]using hv.symm
    rcases hK.f1 with h|⟨n,_,h,_⟩
    ·exact .inl ⟨h.2,e⟩
    ·rw[h]at hn;exact absurd hn (by decide)
   |2,_=>
    refine .inl ⟨rfl,fun wi v _ hv=>?_⟩
    have e:v= .slice none 0 0:=by simpa[wI]using hv.symm
    rcases hK.f2 with h|h
    ·show bT _ _ v x.tag
     rw[e,h.2];exact bT.nil
    ·rw[h.1]at hn;exact absurd hn (by decide)
   |3,_=>
    refine .inl ⟨rfl,fun wi v _ hv=>?_⟩
    have e:v= .pointer none:=by simpa[wI]using hv.symm
    rcases hK.f3 with h|⟨n,_,h,_⟩
    ·exact .inl ⟨h.2,e⟩
    ·rw[h]at hn;exact absurd hn (by decide)
   |4,_=>
    refine .inl ⟨rfl,fun wi v _ hv=>?_⟩
    have e:v= .bool false:=by simpa[wI]using hv.symm
    rcases hK.f4 with h|h
    ·show v= .bool (x.stl.toNat !=0)
     rw[e,h.2];rfl
    ·rw[h.1]at hn;exact absurd hn (by decide)
   |5,_=>
    refine .inl ⟨rfl,fun wi v _ hv=>?_⟩
    have e:v= .bool false:=by simpa[wI]using hv.symm
    rcases hK.f5 with h|h
    ·show v= .bool (x.more.toNat !=0)
     rw[e,h.2];rfl
    ·rw[h.1]at hn;exact absurd hn (by decide)
   |6,_=>
    refine .inl ⟨rfl,fun wi v _ hv=>?_⟩
    have e:v= .pointer none:=by simpa[wI]using hv.symm
    rcases hK.f6 with h|⟨n,_,h,_⟩
    ·exact .inl ⟨h.2,e⟩
    ·rw[h]at hn;exact absurd hn (by decide)
   |7,_=>
    refine .inl ⟨rfl,fun wi v _ hv=>?_⟩
    have e:v= .nilIface:=by simpa[wI]using hv.symm
    rcases hK.f7 with h|⟨s,_,h,_⟩
    ·exact .inl ⟨h.2,e⟩
    ·rw[h]at hn;exact absurd hn (by decide)
   |8,_=>
    refine .inl ⟨rfl,fun wi v _ hv=>?_⟩
    have e:v= .bool false:=by simpa[wI]using hv.symm
    rcases hK.f8 with h|h
    ·show v= .bool (x.res.toNat !=0)
     rw[e,h.2];rfl
    ·rw[h.1]at hn;exact absurd hn (by decide)
   |9,_=>
    refine .inl ⟨rfl,fun wi v _ hv=>?_⟩
    have e:v= .bool false:=by simpa[wI]using hv.symm
    rcases hK.f9 with h|h
    ·show v= .bool (x.abo.toNat !=0)
     rw[e,h.2];rfl
    ·rw[h.1]at hn;exact absurd hn (by decide)
   |10,_=>
    refine .inl ⟨rfl,fun wi v _ hv=>?_⟩
    have e:v= .bool false:=by simpa[wI]using hv.symm
    rcases hK.f10 with h|h
    ·show v= .bool (x.bat.toNat !=0)
     rw[e,h.2];rfl
    ·rw[h.1]at hn;exact absurd hn (by decide)
   |j+11,hj=>exact absurd hj (by simp[Cf]))
  hR
 refine h.imp ?_
 rintro u w' ⟨h1,⟨vs,hl,hB,hg,hz⟩,h3,h4⟩
 match vs,hl with
 |[v0,v1,v2,v3,v4,v5,v6,v7,v8,v9,v10,v11],_=>
  have e0:v0= .int .u32 (x.hdl:Int):=hg 0 v0 (by omega) rfl
  have e4:v4= .bool (x.stl.toNat !=0):=hg 4 v4 (by omega) rfl
  have e5:v5= .bool (x.more.toNat !=0):=hg 5 v5 (by omega) rfl
  have e8:v8= .bool (x.res.toNat !=0):=hg 8 v8 (by omega) rfl
  have e9:v9= .bool (x.abo.toNat !=0):=hg 9 v9 (by omega) rfl
  have e10:v10= .bool (x.bat.toNat !=0):=hg 10 v10 (by omega) rfl
  have e11:v11= .slice none 0 0:=by simpa[wI]using hz 11 (by omega)
  rw[tr]at e4 e5 e8 e9 e10
  subst e0 e4 e5 e8 e9 e10 e11
  exact⟨h1,⟨v1,v2,v3,v6,v7,hB,hg 1 v1 (by omega) rfl,hg 2 v2 (by omega) rfl,hg 3 v3 (by omega) rfl,hg 6 v6 (by omega) rfl,hg 7 v7 (by omega) rfl⟩,h3,h4⟩
theorem Ex{r:List UInt8}(hok:kK x)(hA:∀s∈x.st,ia s)(hK:FR ks x)(hP:Pc (uV 20) cu du)(hh:di hd ks.length body)(hEn:bw ks body)(hre:rb<xb)(hX:aH w xb wI)(hrl:r.length≤1000000000)(hR:Rd w rb (0::((cu::du)++(hd++(body++r))))):
  ah TP 42 [.pointer (some ⟨xb,0,none⟩),.pointer (some ⟨rb,0,none⟩)] w fun u w'=>u= .nilIface∧(∃v1 v2 v3 v6 v7 v11,aH w' xb [.int .u32 (x.hdl:Int),v1,v2,v3,.bool x.stl,.bool x.more,v6,v7,.bool x.res,.bool x.abo,.bool x.bat,v11]∧eQ .u32 w.heap.size x.did w' v1∧bT (fun b=>w.heap.size≤b) w' v2 x.tag∧eQ .u32 w.heap.size x.fmt w' v3∧eQ .u8 w.heap.size x.rm w' v6∧jS w.heap.size x.st w' v7∧bT (fun b=>w.heap.size≤b) w' v11 r)∧Rd w' rb r∧am (fun k=>k≠rb∧k≠xb) w w':=by
 have:=hR.lt
 have:=hX.lt
 refine aR Tryz.func42 ?_
 refine uA 4 rfl<|WC.seq<|WC.regionD (tt [0,1,2,3,4,5,6,7,8,9,10,11,12,13,14,15,16,17,18,19,20,21,22,23,24,25,26,27,28,29,30,31,32,33,36,37,38,39,40,41,42,43,44,45,46,47,48,49,50,51,52,53,54,55]++ff [34]++tt [35]++ff [56,57]++tt [58]) (am (fun k=>k≠rb∧k≠xb) _) mixed (by kernel_rfl) Vd ?_
 have nd1w:w.drew.heap.size=w.heap.size:=rfl
 refine uE 5 rfl<|He (fun _ hS=>az (cs:=[_,_]) Fo.h rfl rfl)<|uE 4 rfl<|He (fun _ hS=>az (cs:=[_,_]) Fo.h rfl rfl)<|uE 4 rfl<|He (fun _ hS=>az (cs:=[_,_]) Fo.h rfl rfl)<|uE 4 rfl<|He (fun _ hS=>az (cs:=[_,_]) Fo.h rfl rfl)<|uE 4 rfl<|He (fun _ hS=>az (cs:=[_,_]) Fo.h rfl rfl)<|uE 4 rfl<|He (fun _ hS=>az (cs:=[_,_]) Fo.h rfl rfl)<|uE 7 rfl<|He (fun _ hS=>az (cs:=[_,_]) Fo.h rfl rfl)<|uE 4 rfl<|He (fun _ hS=>az (cs:=[_,_]) Fo.h rfl rfl)<|uE 4 rfl<|He (fun _ hS=>az (cs:=[_,_]) Fo.h rfl rfl)<|uE 4 rfl<|He (fun _ hS=>az (cs:=[_,_]) Fo.h rfl rfl)<|cd rfl (wR) ?_
 rintro v1 w1 ⟨rfl,e1⟩
 have:=e1.s
 refine⟨LL.ch,?_⟩
 refine He (fun _ hS=>az (cs:=[_,_]) Fo.h rfl rfl)<|WD.l rfl rfl (ll [_,_,_,_,_,_,_,_,_,_,_]) ?_
 rintro _ w2 ⟨rfl,hb2,e2⟩
 have:=e2.s
 refine⟨LL.ch,?_⟩
 refine cd rfl (xc hok hA hK hP hh hEn hb2 hre (by omega) (by omega) (((hX.m Xd).m e1).m e2) (((hR.m Xd).m e1).m e2)) ?_
 rintro v3 w3 ⟨rfl,⟨v1,v2,v3,v6,v7,hX,qP1,qI2,qP3,qP6,qS7⟩,hR,e3⟩
 have:=e3.s
 refine⟨LL.ch,?_⟩
 refine uE 1 rfl<|WD.nil<|uA 4 rfl<|Hq (aB Fb.h rfl)<|uD 3 rfl<|uA 4 rfl<|cl rfl (dN hR) ?_
 rintro v4 w4 ⟨hZB,e4⟩
 have:=e4.s
 refine WL.l rfl (bz Fo.h rfl rfl (aT.nil w4.heap.size 5 1 _) (Src.isB Fb.h hZB) (by omega) (by simp only[maxLen];omega) (by omega)) ?_
 rintro v5 w5 ⟨hO,e5⟩
 have:=e5.s
 refine uC 2 rfl ?_
 replace hX:=(hX.m e4).m e5
 refine Hp rfl rfl hX fun w6 hX e6 hz6=>?_
 have:=e6.s
 refine uD 6 rfl<|WC.ret ?_
 have E:am (fun k=>k≠rb∧k≠xb) w3 w6:=(((am.refl w3:am (fun k=>k≠rb∧k≠xb) w3 w3).t e4).t e5).t e6
 replace hO:=hO.m e6
 have hB11:bT (fun b=>w.heap.size≤b) w6 v5 r:=(hO.cast (Nat.zero_add _) (List.nil_append _)).toB (A:=fun b=>w.heap.size≤b) (fun b hb _=>by omega)
 replace hR:=((hR.m e4).m e5).m e6
 exact aw rfl ⟨rfl,⟨v1,v2,v3,v6,v7,_,hX,(qP1.m (by omega) (by omega) E).low (by omega),(bT.m qI2 E (by intro b _ hb;show b≠rb∧b≠xb;omega)).k (fun b _ h=>by omega),(qP3.m (by omega) (by omega) E).low (by omega),(qP6.m (by omega) (by omega) E).low (by omega),(qS7.m (by omega) (by omega) E).low (by omega),hB11⟩,hR,ch⟩
end Go.Proofs.LL
