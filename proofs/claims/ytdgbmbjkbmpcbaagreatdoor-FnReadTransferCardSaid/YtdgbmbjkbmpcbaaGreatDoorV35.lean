/- Contracts of functions and own laws. Conditions: those that each theorem states. -/
import Derived.Test.YtdgbmbjkbmpcbaaGreatDoorV33
set_option linter.all false
set_option autoImplicit true
set_option relaxedAutoImplicit true
set_option maxRecDepth 20000
namespace Go.Proofs.LL
open Go Go.Proofs Go.RowKit
set_option maxHeartbeats 4000000
attribute [local irreducible] ar WL WC cq WT WX
theorem rS{A:Prop}(h:A:=by
 replace hK:=(hK.m e1).m e2
 replace hUT:=(hUT.m e1).m e2
 replace hx:=(hx.m e1).m e2
 refine WC.seq<|WC.regionD (tt [0,1,2,3,4,5,6,7,8,9,10,11,12,13,14,15,16,17,18,19,20,21,22,23,24,25,26,27,28]) (ay _) mixed (by kernel_rfl) Xd<|jE 19 rfl<|bl rfl rfl rfl hb1 rfl<|jE 1 rfl<|Hf rfl rfl (fun _ hS=>dA rfl rfl (by decide))<|jE 1 rfl<|Hf rfl rfl (fun _ hS=>df rfl rfl (by decide))<|jE 1 rfl<|bl rfl rfl rfl hb1 rfl<|Hf rfl rfl (fun _ hS=>bn rfl rfl)<|jE 2 rfl<|WD.nil<|WC.cond rfl ?_ ?_
 ·intro h2
  refine jA 4 rfl<|WC.ret ?_
  replace he:=((he.t e1).t e2).t Xd
  exact aw rfl ⟨false,rfl,fun h=>(by cases h),he⟩
 ·intro h2
  have h3:=FM (E:=min (64-8 * 8:Int).toNat IntKind.u64.bits) (F:=min (64-8 * 8:Int).toNat IntKind.u64.bits) (by decide) (by decide) (bne_eq_false_iff_eq.1 h2)
  refine jB 5 rfl ?_
  replace hb1:=hb1.m Xd
  refine ld rfl hb1 rfl<|jD 51 rfl<|jA 3 rfl<|ld rfl hb1 rfl<|Hq (ak rfl rfl)<|jC 2 rfl<|WC.ret ?_
  replace he:=((he.t e1).t e2).t Xd
  exact aw rfl ⟨_,rfl,fun _=>gI (by omega) (by omega) (by omega) (by omega) (by omega) (by omega) (by omega) (by omega) (by omega) (by omega) (by omega) (by omega) (by omega) (by omega),he⟩):A:=h
theorem ol{A:Prop}(h:A:=by
 refine jB 5 rfl ?_
 replace hb1:=hb1.m Xd
 refine ld rfl hb1 rfl<|jD 51 rfl<|jA 3 rfl<|ld rfl hb1 rfl<|Hq (ak rfl rfl)<|jC 2 rfl<|WC.ret ?_
 replace he:=((he.t e1).t e2).t Xd
 exact aw rfl ⟨_,rfl,fun _=>gI (by omega) (by omega) (by omega) (by omega) (by omega) (by omega) (by omega) (by omega) (by omega) (by omega) (by omega) (by omega) (by omega) (by omega),he⟩):A:=h
theorem rT{A:Prop}(h:A:=by
 exact aw rfl ⟨_,rfl,fun _=>gI (by omega) (by omega) (by omega) (by omega) (by omega) (by omega) (by omega) (by omega) (by omega) (by omega) (by omega) (by omega) (by omega) (by omega),he⟩):A:=h
theorem gE{A:Prop}(h:A:=by
 intro h2
 refine jA 4 rfl<|WC.ret ?_
 replace he:=((he.t e1).t e2).t Xd
 exact aw rfl ⟨false,rfl,fun h=>(by cases h),he⟩):A:=h
theorem AA{A:Prop}(h:A:=by
 replace he:=(he.t e1).t e2
 exact aw rfl ⟨_,rfl,fun hb=>gI (by omega) (by omega) (by omega) (by omega) (by omega) (by omega) (by omega) (by omega) (by omega) (fun _=>by have:=eq_of_beq hb;exact_mod_cast this) (by omega) (by omega) (by omega) (by omega),he⟩):A:=h
theorem AB{A:Prop}(h:A:=by
 refine WD.lsk rfl (Vd) rfl rfl rfl rfl rfl<|jE 3 rfl<|WD.nil<|jA 5 rfl<|WC.ret ?_
 replace he:=(he.t (e2.t e3)).t Xd
 exact aw rfl ⟨false,rfl,fun h=>(by cases h),he⟩):A:=h
theorem aO{k s:Int}(h:vU k=s):ah TP 175 [.int .i64 k] w fun r w'=>r= .int .i64 s∧ay w w':=h▸qC
theorem BZ{t:List UInt8}(h:i<t.length):(⟨t.toArray⟩:ByteArray)[i]?=some t[i]:=by
 show(if h:i<(⟨t.toArray⟩:ByteArray).size then some ((⟨t.toArray⟩:ByteArray)[i])else none)=_
 rw[dif_pos (show i<(⟨t.toArray⟩:ByteArray).size from h)]
 rfl
theorem qq{t:List UInt8}(hl:t.length≤131072):
  ah TP 184 [str t] w fun r w'=>∃b,r= .bool b∧(b=true→si t)∧ay w w':=by
 refine aR Tryz.func184 ?_
 refine jA 10 rfl<|WC.loop2 (ι:=Nat) [(0,_),(2,_)] (fun i=>[(3,.int .i64 (i:Int))]) (fun i wi=>(∀j (q:j<t.length),j<i→t[j].toNat<128)∧i≤t.length∧ay w wi) (fun i=>t.length-i) 0 sb sb (⟨fun j _ hj=>absurd hj (by omega),Nat.zero_le _,ay.refl _⟩) ?_
 intro i wi1 hh;obtain⟨qS,ni,hE⟩:=hh
 rcases Nat.lt_or_ge i t.length with qi|qi
 ·refine jA 5 rfl<|Hq (jm Fb.h rfl)<|Hq (ae (ef rfl rfl) (decide_eq_true (by(show(i:Int)<(t.length:Int);omega))))<|WL.nil<|jA 2 rfl<|jA 6 rfl<|Hq (zF Fb.h rfl rfl rfl (BZ qi))<|Hq (bK rfl rfl)<|WL.nil<|WC.cond rfl ?_ ?_
  ·intro h2
   refine jA 4 rfl<|WC.ret ?_
   exact aw rfl ⟨false,rfl,fun h=>(by cases h),ch⟩
  ·intro h2
   refine WC.skip<|jA 2 rfl<|ai rfl rfl rfl<|jC 2 rfl ?_
   have h3:t[i].toNat<128:=by
    have:=of_decide_eq_false h2
    omega
   have qT:∀j (q:j<t.length),j<i+1→t[j].toNat<128:=fun j q hj=>by
    rcases Nat.lt_or_ge j i with h|h
    ·exact qS j q h
    ·obtain rfl:j=i:=by omega
     exact h3
   exact⟨i+1,sb,sb,⟨qT,qi,(hE)⟩,by omega⟩
 ·refine jA 5 rfl<|Hq (jm Fb.h rfl)<|Hq (ae (ef rfl rfl) (decide_eq_false (by(show¬(i:Int)<(t.length:Int);omega))))<|WL.nil<|jA 1 rfl<|WC.exit<|jA 4 rfl<|WC.ret ?_
  have qA:si t:=fun b hb=>by
   obtain⟨j,hj,rfl⟩:=List.getElem_of_mem hb
   exact qS j hj (by omega)
  exact aw rfl ⟨true,rfl,fun _=>qA,ch⟩
theorem qm{A:Nat→Prop}{k:Int}{n:Nat}{t:List UInt8}{ks:List V}{o:Int}{d:List V}{cx:List Value}{w:World}(hx:aC A w (.mk k n t ks o d) cx)(hv:aj ks≤100000):
  ah TP 185 [.agg cx.toArray] w fun r w'=>∃b,r= .bool b∧(b=true→∀x∈ks,x.kind=(bA ks 0).kind∧x.desc.length=(bA ks 0).desc.length)∧ay w w':=by
 obtain⟨pk,ck,pd,cd,rfl,_,_,hK,_⟩:=hx.openV
 have hkl:=av ks
 rcases Nat.eq_zero_or_pos ks.length with hk0|hk0
 ·have:ks=[]:=List.eq_nil_of_length_eq_zero hk0
  subst this
  refine aR Tryz.func185 ?_
  have he:=XI w
  refine jA 2 rfl ?_
  have hs1:=he.s
  refine Hb rfl fun w1 hb1 e1=>?_
  refine jC 2 rfl<|jA 4 rfl<|ld rfl hb1 rfl<|jC 1 rfl<|Hq (ae (ak rfl rfl) (br (by omega)))<|WL.nil<|jA 4 rfl<|ld rfl hb1 rfl<|Hq (bK rfl rfl)<|jC 1 rfl<|Hc rfl rfl (fun hc=>aa rfl Fo.h)<|Hk rfl rfl rfl hb1 rfl<|Hc rfl rfl (fun hc=>ef (au hc) rfl)<|Hq (bU rfl rfl (fun h=>beq_iff_eq.2 h))<|jC 2 rfl<|WC.ret ?_
  replace he:=he.t e1
  exact aw rfl ⟨_,rfl,fun _ x hx=>(by cases hx),he⟩
 ·obtain⟨b,o1,c0,rfl,_,hA0,l0,hR0⟩:=hK.kid hk0
  rcases hf0:bA ks 0 with⟨k0,n0,t0,ks0,oo0,d0⟩
  rw[hf0]at hR0
  obtain⟨pk0,ck0,pd0,cd0,rfl,_,_,_,hD0⟩:=hR0.openV
  have hm0:=bo (bf hk0)
  rw[hf0,aE]at hm0
  refine aR Tryz.func185 ?_
  have he:=XI w
  refine jA 2 rfl ?_
  have hs1:=he.s
  refine Hb rfl fun w1 hb1 e1=>?_
  refine jC 2 rfl<|jA 4 rfl<|ld rfl hb1 rfl<|jC 1 rfl<|Hq (ae (ak rfl rfl) (bk (by(omega))))<|WL.nil<|jA 2 rfl<|jA 4 rfl<|ld rfl hb1 rfl<|jC 3 rfl<|jA 1 rfl ?_
  replace hK:=hK.m e1
  replace hA0:=hA0.m e1
  replace hD0:=hD0.m e1
  replace he:=he.t e1
  refine WC.loop2 (ι:=Nat) [(1,_),(2,_),(18,_),(19,_)] (fun i=>[(20,.int .i64 (i:Int))]) (fun i wi=>(∀j,j<i→(bA ks j).kind=k0∧(bA ks j).desc.length=d0.length)∧i≤ks.length∧ay w1 wi) (fun i=>ks.length-i) 0 sb sb (⟨fun j hj=>absurd hj (by omega),Nat.zero_le _,ay.refl _⟩) ?_
  intro i wi1 hh;obtain⟨qS,ni,hE⟩:=hh
  rcases Nat.lt_or_ge i ks.length with qi|qi
  replace hK:=hK.m hE
  ·obtain⟨c1,_,hA1,l1,hR1⟩:=hK.kidP qi
   rcases hf1:bA ks i with⟨k1,n1,t1,ks1,oo1,d1⟩
   rw[hf1]at hR1
   obtain⟨pk1,ck1,pd1,cd1,rfl,_,_,_,hD1⟩:=hR1.openV
   have hm1:=bo (bf qi)
   rw[hf1,aE]at hm1
   have qn:k1=k0→d1.length=d0.length→∀j,j<i+1→(bA ks j).kind=k0∧(bA ks j).desc.length=d0.length:=fun e1 e2 j hj=>by
    rcases Nat.lt_or_ge j i with h|h
    ·exact qS j h
    ·obtain rfl:j=i:=by omega
     rw[hf1];exact⟨e1,e2⟩
   rcases Decidable.em (k1=k0)with ek|ek
   ·rcases Decidable.em (d1.length=d0.length)with ed|ed
    ·rcases Decidable.em (d1.length=1)with e1|e1
     ·obtain⟨b2,o2,c2,rfl,_,hA2,l2,hR2⟩:=hD1.kid (i:=0) (by omega)
      replace hD0:=hD0.m hE
      obtain⟨b3,o3,c3,rfl,_,hA3,l3,hR3⟩:=hD0.kid (i:=0) (by omega)
      refine jA 2 rfl<|lT rfl rfl<|WL.nil<|jA 7 rfl<|ix rfl rfl rfl<|Hq (ad Fo.h rfl Xr hA1 (hn:=rfl)) ?_
      replace he:=he.t hE
      have hs2:=he.s
      replace hb1:=hb1.m hE
      have hx2b1:=hb1.lt
      refine Ha fun w2 hb2 e2=>?_
      refine Ho rfl rfl hb2 fun w3 hb2 e3 hz3=>?_
      refine WL.nil ?_
      replace hK:=hK.m (e2.t e3)
      replace hA0:=(hA0.m hE).m (e2.t e3)
      replace hD0:=hD0.m (e2.t e3)
      replace hb1:=hb1.m (e2.t e3)
      replace hA1:=hA1.m (e2.t e3)
      replace hD1:=hD1.m (e2.t e3)
      replace hA2:=hA2.m (e2.t e3)
      replace hA3:=hA3.m (e2.t e3)
      replace hR2:=hR2.m (e2.t e3)
      replace hR3:=hR3.m (e2.t e3)
      refine WC.seq<|WC.regionD (tt [0,1,2,3,4,5,6,7,8,9,10,11,12,13,14,15,16,17,18,19,20,21,22,23,24,25,26,27,28,29,30,31,32,33,34,35,36]++ff [37]++tt [38,39,40]) (ay _) mixed (by kernel_rfl) Xd<|jE 1 rfl<|dl rfl hb2 rfl<|jE 1 rfl<|dl rfl hb1 rfl<|He (fun _ hS=>bd Fo.h rfl rfl rfl)<|jE 1 rfl<|He (fun _ hS=>ao Fb.h rfl hS (hA0.get (j:=0) rfl))<|He (fun _ hS=>ae (bn rfl rfl) (fI (ek)))<|jE 2 rfl<|bl rfl rfl rfl hb2 rfl<|jE 2 rfl<|bl rfl rfl rfl hb1 rfl<|Hf rfl rfl (fun _ hS=>bd Fo.h rfl rfl rfl)<|jE 1 rfl<|Hf rfl rfl (fun _ hS=>ao Fb.h rfl hS (hA0.get (j:=5) rfl))<|jE 1 rfl<|Hf rfl rfl (fun _ hS=>ae (bn rfl rfl) (fI (by(omega))))<|jE 3 rfl<|bl rfl rfl rfl hb2 rfl<|jE 1 rfl<|Hf rfl rfl (fun _ hS=>ae (ak rfl rfl) (br (by(omega))))<|jE 2 rfl<|bl rfl rfl rfl hb2 rfl<|Hf rfl rfl (fun _ hS=>bd Fo.h rfl rfl rfl)<|Hf rfl rfl (fun _ hS=>ad Fo.h rfl hS hA2 (hn:=l2))<|jE 1 rfl<|bl rfl rfl rfl hb1 rfl<|Hf rfl rfl (fun _ hS=>bd Fo.h rfl rfl rfl)<|jE 1 rfl<|Hf rfl rfl (fun _ hS=>ao Fb.h rfl hS (hA0.get (j:=5) rfl))<|Hf rfl rfl (fun _ hS=>bd Fo.h rfl rfl rfl)<|Hf rfl rfl (fun _ hS=>ad Fo.h rfl hS hA3 (hn:=l3))<|WD.lg rfl rfl rfl rfl rfl (cD Fb.h rfl (eR (by have:=bo (bf (ks:=d1) (j:=0) (by omega));omega) (hR2.m Xd) (hR3.m Xd))) ?_
      rintro v4 w4 ⟨rfl,e4⟩
      refine⟨(Vd.t e4),?_⟩
      refine jE 3 rfl<|WD.nil<|WC.cond rfl ?_ ?_
      ·intro h2
       refine jA 4 rfl<|WC.ret ?_
       replace he:=((he.t (e2.t e3)).t Xd).t e4
       exact aw rfl ⟨false,rfl,fun h=>(by cases h),he⟩
      ·intro h2
       refine WC.skip<|jA 1 rfl<|ai rfl rfl rfl<|jC 2 rfl ?_
       exact⟨i+1,sb,sb,⟨qn ek ed,qi,((((hE.t (e2.t e3)).t Xd).t e4))⟩,by omega⟩
     ·refine jA 2 rfl<|lT rfl rfl<|WL.nil<|jA 7 rfl<|ix rfl rfl rfl<|Hq (ad Fo.h rfl Xr hA1 (hn:=rfl)) ?_
      replace he:=he.t hE
      have hs2:=he.s
      replace hb1:=hb1.m hE
      have hx2b1:=hb1.lt
      refine Ha fun w2 hb2 e2=>?_
      refine Ho rfl rfl hb2 fun w3 hb2 e3 hz3=>?_
      refine WL.nil ?_
      replace hK:=hK.m (e2.t e3)
      replace hA0:=(hA0.m hE).m (e2.t e3)
      replace hD0:=(hD0.m hE).m (e2.t e3)
      replace hb1:=hb1.m (e2.t e3)
      replace hA1:=hA1.m (e2.t e3)
      replace hD1:=hD1.m (e2.t e3)
      refine WC.seq<|WC.regionD (tt [0,1,2,3,4,5,6,7,8,9,10,11,12,13,14,15,16,17,18,19,20,21,22,23,24,25,26,27,28,29,30,31,32,33,34,35,36]++ff [37]++tt [38,39,40]) (ay _) mixed (by kernel_rfl) Xd<|jE 1 rfl<|dl rfl hb2 rfl<|jE 1 rfl<|dl rfl hb1 rfl<|He (fun _ hS=>bd Fo.h rfl rfl rfl)<|jE 1 rfl<|He (fun _ hS=>ao Fb.h rfl hS (hA0.get (j:=0) rfl))<|He (fun _ hS=>ae (bn rfl rfl) (fI (ek)))<|jE 2 rfl<|bl rfl rfl rfl hb2 rfl<|jE 2 rfl<|bl rfl rfl rfl hb1 rfl<|Hf rfl rfl (fun _ hS=>bd Fo.h rfl rfl rfl)<|jE 1 rfl<|Hf rfl rfl (fun _ hS=>ao Fb.h rfl hS (hA0.get (j:=5) rfl))<|jE 1 rfl<|Hf rfl rfl (fun _ hS=>ae (bn rfl rfl) (fI (by(omega))))<|jE 3 rfl<|bl rfl rfl rfl hb2 rfl<|jE 1 rfl<|Hf rfl rfl (fun _ hS=>ae (ak rfl rfl) (bk (by(omega))))<|jE 12 rfl<|WD.lsk rfl (Vd) rfl rfl rfl rfl rfl<|jE 3 rfl<|WD.nil<|jA 2 rfl<|jA 1 rfl<|ai rfl rfl rfl<|jC 2 rfl ?_
      exact⟨i+1,sb,sb,⟨qn ek ed,qi,(((hE.t (e2.t e3)).t Xd))⟩,by omega⟩
    ·refine jA 2 rfl<|lT rfl rfl<|WL.nil<|jA 7 rfl<|ix rfl rfl rfl<|Hq (ad Fo.h rfl Xr hA1 (hn:=rfl)) ?_
     replace he:=he.t hE
     have hs2:=he.s
     replace hb1:=hb1.m hE
     have hx2b1:=hb1.lt
     refine Ha fun w2 hb2 e2=>?_
     refine Ho rfl rfl hb2 fun w3 hb2 e3 hz3=>?_
     refine WL.nil ?_
     replace hK:=hK.m (e2.t e3)
     replace hA0:=(hA0.m hE).m (e2.t e3)
     replace hD0:=(hD0.m hE).m (e2.t e3)
     replace hb1:=hb1.m (e2.t e3)
     replace hA1:=hA1.m (e2.t e3)
     replace hD1:=hD1.m (e2.t e3)
     refine WC.seq<|WC.regionD (tt [0,1,2,3,4,5,6,7,8,9,10,11,12,13,14,15,16,17,18,19,20,21,22,23,24,25,26,27,28,29,30,31,32,33,34,35,36]++ff [37]++tt [38,39,40]) (ay _) mixed (by kernel_rfl) Xd<|jE 1 rfl<|dl rfl hb2 rfl<|jE 1 rfl<|dl rfl hb1 rfl<|He (fun _ hS=>bd Fo.h rfl rfl rfl)<|jE 1 rfl<|He (fun _ hS=>ao Fb.h rfl hS (hA0.get (j:=0) rfl))<|He (fun _ hS=>ae (bn rfl rfl) (fI (ek)))<|jE 2 rfl<|bl rfl rfl rfl hb2 rfl<|jE 2 rfl<|bl rfl rfl rfl hb1 rfl<|Hf rfl rfl (fun _ hS=>bd Fo.h rfl rfl rfl)<|jE 1 rfl<|Hf rfl rfl (fun _ hS=>ao Fb.h rfl hS (hA0.get (j:=5) rfl))<|jE 1 rfl<|Hf rfl rfl (fun _ hS=>ae (bn rfl rfl) (kQ (by(omega))))<|jE 18 rfl ?_
     exact AB
   ·refine jA 2 rfl<|lT rfl rfl<|WL.nil<|jA 7 rfl<|ix rfl rfl rfl<|Hq (ad Fo.h rfl Xr hA1 (hn:=rfl)) ?_
    replace he:=he.t hE
    have hs2:=he.s
    replace hb1:=hb1.m hE
    have hx2b1:=hb1.lt
    refine Ha fun w2 hb2 e2=>?_
    refine Ho rfl rfl hb2 fun w3 hb2 e3 hz3=>?_
    refine WL.nil ?_
    replace hK:=hK.m (e2.t e3)
    replace hA0:=(hA0.m hE).m (e2.t e3)
    replace hD0:=(hD0.m hE).m (e2.t e3)
    replace hb1:=hb1.m (e2.t e3)
    replace hA1:=hA1.m (e2.t e3)
    replace hD1:=hD1.m (e2.t e3)
    refine WC.seq<|WC.regionD (tt [0,1,2,3,4,5,6,7,8,9,10,11,12,13,14,15,16,17,18,19,20,21,22,23,24,25,26,27,28,29,30,31,32,33,34,35,36]++ff [37]++tt [38,39,40]) (ay _) mixed (by kernel_rfl) Xd<|jE 1 rfl<|dl rfl hb2 rfl<|jE 1 rfl<|dl rfl hb1 rfl<|He (fun _ hS=>bd Fo.h rfl rfl rfl)<|jE 1 rfl<|He (fun _ hS=>ao Fb.h rfl hS (hA0.get (j:=0) rfl))<|He (fun _ hS=>ae (bn rfl rfl) (kQ (ek)))<|jE 29 rfl ?_
    exact AB
  ·refine jA 2 rfl<|lF rfl rfl<|WL.nil<|jA 2 rfl<|WC.exit<|jA 3 rfl ?_
   replace hb1:=hb1.m hE
   refine ld rfl hb1 rfl<|Hq (ak rfl rfl)<|jC 2 rfl<|WC.ret ?_
   have qA:∀x∈ks,x.kind=k0∧x.desc.length=d0.length:=fun x hx=>by
    obtain⟨j,hj,rfl⟩:=iy hx
    exact qS j (by omega)
   replace he:=he.t hE
   exact aw rfl ⟨_,rfl,fun _=>qA,he⟩
theorem FY{A:Nat→Prop}{n:Nat}{t:List UInt8}{ks:List V}{o:Int}{d:List V}{cx:List Value}{w:World}(hx:aC A w (.mk 0 n t ks o d) cx)(hv:aj ks≤100000)(hUT:UT w)(ht:t.length≤131072)(hn:n=0):
  ah TP 93 [.agg cx.toArray] w fun r w'=>∃b,r= .bool b∧(b=true→CF 0 n t ks)∧ay w w':=by
 have hkl:=av ks
 obtain⟨pk,ck,pd,cd,rfl,_,_,hK,_⟩:=hx.openV
 refine aR Tryz.func93 ?_
 have he:=XI w
 refine jA 2 rfl ?_
 have:=he.s
 refine Hb rfl fun w1 hb1 e1=>?_
 refine jD 6 rfl<|ld rfl hb1 rfl<|Hl rfl (aO (s:= -1) (by decide)) fun w2 e2=>?_
 refine jD 5 rfl<|Hq (aS rfl rfl)<|jD 7 rfl<|jA 4 rfl ?_
 replace hb1:=hb1.m e2
 refine ld rfl hb1 rfl<|jD 51 rfl<|jA 3 rfl<|ld rfl hb1 rfl<|Hq (ak rfl rfl)<|jC 2 rfl<|WC.ret ?_
 replace he:=(he.t e1).t e2
 exact rT
theorem FZ{A:Nat→Prop}{n:Nat}{t:List UInt8}{ks:List V}{o:Int}{d:List V}{cx:List Value}{w:World}(hx:aC A w (.mk 1 n t ks o d) cx)(hv:aj ks≤100000)(hUT:UT w)(ht:t.length≤131072):
  ah TP 93 [.agg cx.toArray] w fun r w'=>∃b,r= .bool b∧(b=true→CF 1 n t ks)∧ay w w':=by
 have hkl:=av ks
 obtain⟨pk,ck,pd,cd,rfl,_,_,hK,_⟩:=hx.openV
 refine aR Tryz.func93 ?_
 have he:=XI w
 refine jA 2 rfl ?_
 have:=he.s
 refine Hb rfl fun w1 hb1 e1=>?_
 refine jD 6 rfl<|ld rfl hb1 rfl<|Hl rfl (aO (s:= -1) (by decide)) fun w2 e2=>?_
 refine jD 5 rfl<|Hq (aS rfl rfl)<|jD 7 rfl<|jA 4 rfl ?_
 replace hb1:=hb1.m e2
 refine ld rfl hb1 rfl<|jD 11 rfl<|ld rfl hb1 rfl<|Hq (aY rfl rfl)<|jC 2 rfl<|WC.ret ?_
 replace he:=(he.t e1).t e2
 exact aw rfl ⟨_,rfl,fun hb=>gI (fun _=>by have:=of_decide_eq_true hb;omega) (by omega) (by omega) (by omega) (by omega) (by omega) (by omega) (by omega) (by have:=of_decide_eq_true hb;omega) (by omega) (by omega) (by omega) (by omega) (by omega),he⟩
theorem F0{A:Nat→Prop}{n:Nat}{t:List UInt8}{ks:List V}{o:Int}{d:List V}{cx:List Value}{w:World}(hx:aC A w (.mk 2 n t ks o d) cx)(hv:aj ks≤100000)(hUT:UT w)(ht:t.length≤131072):
  ah TP 93 [.agg cx.toArray] w fun r w'=>∃b,r= .bool b∧(b=true→CF 2 n t ks)∧ay w w':=by
 have hkl:=av ks
 obtain⟨pk,ck,pd,cd,rfl,_,_,hK,_⟩:=hx.openV
 refine aR Tryz.func93 ?_
 have he:=XI w
 refine jA 2 rfl ?_
 have:=he.s
 refine Hb rfl fun w1 hb1 e1=>?_
 refine jD 6 rfl<|ld rfl hb1 rfl<|Hl rfl (aO (s:=1) (by decide)) fun w2 e2=>?_
 refine jD 5 rfl<|Hq (aS rfl rfl)<|jC 2 rfl<|Hg rfl rfl (aY rfl rfl)<|jD 6 rfl<|Hq (eg rfl rfl rfl (by omega) (by omega))<|Hq (bP rfl rfl rfl (by omega) (by omega))<|jD 5 rfl ?_
 replace hb1:=hb1.m e2
 refine ld rfl hb1 rfl<|Hq (bK rfl rfl)<|jC 7 rfl ?_
 replace hK:=(hK.m e1).m e2
 replace hUT:=(hUT.m e1).m e2
 replace hx:=(hx.m e1).m e2
 refine WC.seq<|WC.regionD (tt [0,1,2,3,4,5,6,7,8,9,10,11,12,13,14,15,16,17,18,19,20,21,22,23,24,25,26,27,28]) (ay _) mixed (by kernel_rfl) Xd<|jE 19 rfl<|bl rfl rfl rfl hb1 rfl<|jE 1 rfl<|Hf rfl rfl (fun _ hS=>dA rfl rfl (by decide))<|jE 1 rfl<|Hf rfl rfl (fun _ hS=>df rfl rfl (by decide))<|jE 1 rfl<|bl rfl rfl rfl hb1 rfl<|Hf rfl rfl (fun _ hS=>bn rfl rfl)<|jE 2 rfl<|WD.nil<|WC.cond rfl ?_ ?_
 ·exact gE
 ·intro h2
  have h3:=FK (E:=min (64-8 * 1:Int).toNat IntKind.u64.bits) (F:=min (64-8 * 1:Int).toNat IntKind.u64.bits) (by decide) (by decide) (bne_eq_false_iff_eq.1 h2)
  exact ol
theorem F1{A:Nat→Prop}{n:Nat}{t:List UInt8}{ks:List V}{o:Int}{d:List V}{cx:List Value}{w:World}(hx:aC A w (.mk 3 n t ks o d) cx)(hv:aj ks≤100000)(hUT:UT w)(ht:t.length≤131072):
  ah TP 93 [.agg cx.toArray] w fun r w'=>∃b,r= .bool b∧(b=true→CF 3 n t ks)∧ay w w':=by
 have hkl:=av ks
 obtain⟨pk,ck,pd,cd,rfl,_,_,hK,_⟩:=hx.openV
 refine aR Tryz.func93 ?_
 have he:=XI w
 refine jA 2 rfl ?_
 have:=he.s
 refine Hb rfl fun w1 hb1 e1=>?_
 refine jD 6 rfl<|ld rfl hb1 rfl<|Hl rfl (aO (s:=2) (by decide)) fun w2 e2=>?_
 refine jD 5 rfl<|Hq (aS rfl rfl)<|jC 2 rfl<|Hg rfl rfl (aY rfl rfl)<|jD 6 rfl<|Hq (eg rfl rfl rfl (by omega) (by omega))<|Hq (bP rfl rfl rfl (by omega) (by omega))<|jD 5 rfl ?_
 replace hb1:=hb1.m e2
 refine ld rfl hb1 rfl<|Hq (bK rfl rfl)<|jC 7 rfl ?_
 replace hK:=(hK.m e1).m e2
 replace hUT:=(hUT.m e1).m e2
 replace hx:=(hx.m e1).m e2
 refine WC.seq<|WC.regionD (tt [0,1,2,3,4,5,6,7,8,9,10,11,12,13,14,15,16,17,18,19,20,21,22,23,24,25,26,27,28]) (ay _) mixed (by kernel_rfl) Xd<|jE 19 rfl<|bl rfl rfl rfl hb1 rfl<|jE 1 rfl<|Hf rfl rfl (fun _ hS=>dA rfl rfl (by decide))<|jE 1 rfl<|Hf rfl rfl (fun _ hS=>df rfl rfl (by decide))<|jE 1 rfl<|bl rfl rfl rfl hb1 rfl<|Hf rfl rfl (fun _ hS=>bn rfl rfl)<|jE 2 rfl<|WD.nil<|WC.cond rfl ?_ ?_
 ·exact gE
 ·intro h2
  have h3:=FL (E:=min (64-8 * 2:Int).toNat IntKind.u64.bits) (F:=min (64-8 * 2:Int).toNat IntKind.u64.bits) (by decide) (by decide) (bne_eq_false_iff_eq.1 h2)
  exact ol
theorem F2{A:Nat→Prop}{n:Nat}{t:List UInt8}{ks:List V}{o:Int}{d:List V}{cx:List Value}{w:World}(hx:aC A w (.mk 4 n t ks o d) cx)(hv:aj ks≤100000)(hUT:UT w)(ht:t.length≤131072):
  ah TP 93 [.agg cx.toArray] w fun r w'=>∃b,r= .bool b∧(b=true→CF 4 n t ks)∧ay w w':=by
 have hkl:=av ks
 obtain⟨pk,ck,pd,cd,rfl,_,_,hK,_⟩:=hx.openV
 refine aR Tryz.func93 ?_
 have he:=XI w
 refine jA 2 rfl ?_
 have:=he.s
 refine Hb rfl fun w1 hb1 e1=>?_
 refine jD 6 rfl<|ld rfl hb1 rfl<|Hl rfl (aO (s:=4) (by decide)) fun w2 e2=>?_
 refine jD 5 rfl<|Hq (aS rfl rfl)<|jC 2 rfl<|Hg rfl rfl (aY rfl rfl)<|jD 6 rfl<|Hq (eg rfl rfl rfl (by omega) (by omega))<|Hq (bP rfl rfl rfl (by omega) (by omega))<|jD 5 rfl ?_
 replace hb1:=hb1.m e2
 refine ld rfl hb1 rfl<|Hq (bK rfl rfl)<|jC 7 rfl ?_
 replace hK:=(hK.m e1).m e2
 replace hUT:=(hUT.m e1).m e2
 replace hx:=(hx.m e1).m e2
 refine WC.seq<|WC.regionD (tt [0,1,2,3,4,5,6,7,8,9,10,11,12,13,14,15,16,17,18,19,20,21,22,23,24,25,26,27,28]) (ay _) mixed (by kernel_rfl) Xd<|jE 19 rfl<|bl rfl rfl rfl hb1 rfl<|jE 1 rfl<|Hf rfl rfl (fun _ hS=>dA rfl rfl (by decide))<|jE 1 rfl<|Hf rfl rfl (fun _ hS=>df rfl rfl (by decide))<|jE 1 rfl<|bl rfl rfl rfl hb1 rfl<|Hf rfl rfl (fun _ hS=>bn rfl rfl)<|jE 2 rfl<|WD.nil<|WC.cond rfl ?_ ?_
 ·exact gE
 ·intro h2
  have h3:=wD (E:=min (64-8 * 4:Int).toNat IntKind.u64.bits) (F:=min (64-8 * 4:Int).toNat IntKind.u64.bits) (by decide) (by decide) (bne_eq_false_iff_eq.1 h2)
  exact ol
theorem F3{A:Nat→Prop}{n:Nat}{t:List UInt8}{ks:List V}{o:Int}{d:List V}{cx:List Value}{w:World}(hx:aC A w (.mk 5 n t ks o d) cx)(hv:aj ks≤100000)(hUT:UT w)(ht:t.length≤131072):
  ah TP 93 [.agg cx.toArray] w fun r w'=>∃b,r= .bool b∧(b=true→CF 5 n t ks)∧ay w w':=by
 have hkl:=av ks
 obtain⟨pk,ck,pd,cd,rfl,_,_,hK,_⟩:=hx.openV
 refine aR Tryz.func93 ?_
 have he:=XI w
 refine jA 2 rfl ?_
 have:=he.s
 refine Hb rfl fun w1 hb1 e1=>?_
 refine jD 6 rfl<|ld rfl hb1 rfl<|Hl rfl (aO (s:=8) (by decide)) fun w2 e2=>?_
 refine jD 5 rfl<|Hq (aS rfl rfl)<|jC 2 rfl<|Hg rfl rfl (aY rfl rfl)<|jD 6 rfl<|Hq (eg rfl rfl rfl (by omega) (by omega))<|Hq (bP rfl rfl rfl (by omega) (by omega))<|jD 5 rfl ?_
 replace hb1:=hb1.m e2
 refine ld rfl hb1 rfl<|Hq (bK rfl rfl)<|jC 7 rfl ?_
 exact rS
theorem F4{A:Nat→Prop}{n:Nat}{t:List UInt8}{ks:List V}{o:Int}{d:List V}{cx:List Value}{w:World}(hx:aC A w (.mk 6 n t ks o d) cx)(hv:aj ks≤100000)(hUT:UT w)(ht:t.length≤131072):
  ah TP 93 [.agg cx.toArray] w fun r w'=>∃b,r= .bool b∧(b=true→CF 6 n t ks)∧ay w w':=by
 have hkl:=av ks
 obtain⟨pk,ck,pd,cd,rfl,_,_,hK,_⟩:=hx.openV
 refine aR Tryz.func93 ?_
 have he:=XI w
 refine jA 2 rfl ?_
 have:=he.s
 refine Hb rfl fun w1 hb1 e1=>?_
 refine jD 6 rfl<|ld rfl hb1 rfl<|Hl rfl (aO (s:=1) (by decide)) fun w2 e2=>?_
 refine jD 5 rfl<|Hq (aS rfl rfl)<|jC 2 rfl<|Hg rfl rfl (aY rfl rfl)<|jD 6 rfl<|Hq (eg rfl rfl rfl (by omega) (by omega))<|Hq (bP rfl rfl rfl (by omega) (by omega))<|jD 5 rfl ?_
 replace hb1:=hb1.m e2
 refine ld rfl hb1 rfl<|Hq (bK rfl rfl)<|jC 2 rfl<|lg rfl rfl rfl hb1 rfl<|Hg rfl rfl (aY rfl rfl)<|jC 3 rfl ?_
 replace hK:=(hK.m e1).m e2
 replace hUT:=(hUT.m e1).m e2
 replace hx:=(hx.m e1).m e2
 refine WC.seq<|WC.regionD (tt [0,1,2,3,4,5,6,7,8,9,10,11,12,13,14,15,16,17,18,19,20,21,22,23,24,25,26,27,28]) (ay _) mixed (by kernel_rfl) Xd<|jE 3 rfl<|bl rfl rfl rfl hb1 rfl<|jE 1 rfl<|Hf rfl rfl (fun _ hS=>dA rfl rfl (by decide))<|Hf rfl rfl (fun _ hS=>aL Fo.h rfl)<|jE 1 rfl<|Hf rfl rfl (fun _ hS=>df rfl rfl (by decide))<|Hf rfl rfl (fun _ hS=>aL Fo.h rfl)<|jE 1 rfl<|bl rfl rfl rfl hb1 rfl<|Hf rfl rfl (fun _ hS=>bn rfl rfl)<|jE 2 rfl<|WD.qc rfl rfl rfl rfl (fun hc=>fun _ hS=>aq rfl)<|WD.qc rfl rfl rfl rfl (fun hc=>fun _ hS=>fF (au hc))<|WD.qc rfl rfl rfl rfl (fun hc=>fun _ hS=>aq (au hc))<|WD.qcc rfl rfl rfl rfl (fun hc hx=>fun _ hS=>aa rfl Fo.h)<|WD.qcc rfl rfl rfl rfl (fun hc hx=>fun _ hS=>ao Fb.h (aU hc hx) hS (hb1.get rfl))<|WD.qcc rfl rfl rfl rfl (fun hc hx=>fun _ hS=>aq rfl)<|WD.qcc rfl rfl rfl rfl (fun hc hx=>fun _ hS=>dA (aU hc hx) (aU hc hx) (by decide))<|WD.qcc rfl rfl rfl rfl (fun hc hx=>fun _ hS=>aq rfl)<|WD.qcc rfl rfl rfl rfl (fun hc hx=>fun _ hS=>df (aU hc hx) (aU hc hx) (by decide))<|WD.qcc rfl rfl rfl rfl (fun hc hx=>fun _ hS=>aa rfl Fo.h)<|WD.qcc rfl rfl rfl rfl (fun hc hx=>fun _ hS=>ao Fb.h (aU hc hx) hS (hb1.get rfl))<|WD.qcc rfl rfl rfl rfl (fun hc hx=>fun _ hS=>bn (aU hc hx) (aU hc hx)) ?_
 refine WD.qc rfl rfl rfl rfl (fun hc=>fun _ hS=>bU (au hc) rfl (fun h=>by first|(simp[*];done)|(exfalso;simp at h;done)|(simp_all;done)))<|He (fun _ hS=>cA rfl rfl (fun h=>beq_iff_eq.2 h))<|WD.nil<|WC.cond rfl ?_ ?_
 ·exact gE
 ·intro h2
  have h3:=Gj (E:=min (64-8 * 1:Int).toNat IntKind.u64.bits) (F:=min (64-8 * 1:Int).toNat IntKind.i64.bits) (by decide) (by decide) (bne_eq_false_iff_eq.1 (Bool.or_eq_false_iff.1 h2).1)
  obtain⟨h4,h5⟩:=h3
  refine jB 5 rfl ?_
  replace hb1:=hb1.m Xd
  refine ld rfl hb1 rfl<|jD 51 rfl<|jA 3 rfl<|ld rfl hb1 rfl<|Hq (ak rfl rfl)<|jC 2 rfl<|WC.ret ?_
  replace he:=((he.t e1).t e2).t Xd
  exact aw rfl ⟨_,rfl,fun _=>gI (by omega) (by omega) (by omega) (by omega) (fun _=>h4) (by omega) (by omega) (by omega) h5 (by omega) (by omega) (by omega) (by omega) (by omega),he⟩
theorem F5{A:Nat→Prop}{n:Nat}{t:List UInt8}{ks:List V}{o:Int}{d:List V}{cx:List Value}{w:World}(hx:aC A w (.mk 7 n t ks o d) cx)(hv:aj ks≤100000)(hUT:UT w)(ht:t.length≤131072):
  ah TP 93 [.agg cx.toArray] w fun r w'=>∃b,r= .bool b∧(b=true→CF 7 n t ks)∧ay w w':=by
 have hkl:=av ks
 obtain⟨pk,ck,pd,cd,rfl,_,_,hK,_⟩:=hx.openV
 refine aR Tryz.func93 ?_
 have he:=XI w
 refine jA 2 rfl ?_
 have:=he.s
 refine Hb rfl fun w1 hb1 e1=>?_
 refine jD 6 rfl<|ld rfl hb1 rfl<|Hl rfl (aO (s:=2) (by decide)) fun w2 e2=>?_
 refine jD 5 rfl<|Hq (aS rfl rfl)<|jC 2 rfl<|Hg rfl rfl (aY rfl rfl)<|jD 6 rfl<|Hq (eg rfl rfl rfl (by omega) (by omega))<|Hq (bP rfl rfl rfl (by omega) (by omega))<|jD 5 rfl ?_
 replace hb1:=hb1.m e2
 refine ld rfl hb1 rfl<|Hq (bK rfl rfl)<|jC 2 rfl<|lg rfl rfl rfl hb1 rfl<|Hg rfl rfl (aY rfl rfl)<|jC 3 rfl ?_
 replace hK:=(hK.m e1).m e2
 replace hUT:=(hUT.m e1).m e2
 replace hx:=(hx.m e1).m e2
 refine WC.seq<|WC.regionD (tt [0,1,2,3,4,5,6,7,8,9,10,11,12,13,14,15,16,17,18,19,20,21,22,23,24,25,26,27,28]) (ay _) mixed (by kernel_rfl) Xd<|jE 3 rfl<|bl rfl rfl rfl hb1 rfl<|jE 1 rfl<|Hf rfl rfl (fun _ hS=>dA rfl rfl (by decide))<|Hf rfl rfl (fun _ hS=>aL Fo.h rfl)<|jE 1 rfl<|Hf rfl rfl (fun _ hS=>df rfl rfl (by decide))<|Hf rfl rfl (fun _ hS=>aL Fo.h rfl)<|jE 1 rfl<|bl rfl rfl rfl hb1 rfl<|Hf rfl rfl (fun _ hS=>bn rfl rfl)<|jE 2 rfl<|WD.qc rfl rfl rfl rfl (fun hc=>fun _ hS=>aq rfl)<|WD.qc rfl rfl rfl rfl (fun hc=>fun _ hS=>fF (au hc))<|WD.qc rfl rfl rfl rfl (fun hc=>fun _ hS=>aq (au hc))<|WD.qcc rfl rfl rfl rfl (fun hc hx=>fun _ hS=>aa rfl Fo.h)<|WD.qcc rfl rfl rfl rfl (fun hc hx=>fun _ hS=>ao Fb.h (aU hc hx) hS (hb1.get rfl))<|WD.qcc rfl rfl rfl rfl (fun hc hx=>fun _ hS=>aq rfl)<|WD.qcc rfl rfl rfl rfl (fun hc hx=>fun _ hS=>dA (aU hc hx) (aU hc hx) (by decide))<|WD.qcc rfl rfl rfl rfl (fun hc hx=>fun _ hS=>aq rfl)<|WD.qcc rfl rfl rfl rfl (fun hc hx=>fun _ hS=>df (aU hc hx) (aU hc hx) (by decide))<|WD.qcc rfl rfl rfl rfl (fun hc hx=>fun _ hS=>aa rfl Fo.h)<|WD.qcc rfl rfl rfl rfl (fun hc hx=>fun _ hS=>ao Fb.h (aU hc hx) hS (hb1.get rfl))<|WD.qcc rfl rfl rfl rfl (fun hc hx=>fun _ hS=>bn (aU hc hx) (aU hc hx)) ?_
 refine WD.qc rfl rfl rfl rfl (fun hc=>fun _ hS=>bU (au hc) rfl (fun h=>by first|(simp[*];done)|(exfalso;simp at h;done)|(simp_all;done)))<|He (fun _ hS=>cA rfl rfl (fun h=>beq_iff_eq.2 h))<|WD.nil<|WC.cond rfl ?_ ?_
 ·exact gE
 ·intro h2
  have h3:=Gk (E:=min (64-8 * 2:Int).toNat IntKind.u64.bits) (F:=min (64-8 * 2:Int).toNat IntKind.i64.bits) (by decide) (by decide) (bne_eq_false_iff_eq.1 (Bool.or_eq_false_iff.1 h2).1)
  obtain⟨h4,h5⟩:=h3
  refine jB 5 rfl ?_
  replace hb1:=hb1.m Xd
  refine ld rfl hb1 rfl<|jD 51 rfl<|jA 3 rfl<|ld rfl hb1 rfl<|Hq (ak rfl rfl)<|jC 2 rfl<|WC.ret ?_
  replace he:=((he.t e1).t e2).t Xd
  exact aw rfl ⟨_,rfl,fun _=>gI (by omega) (by omega) (by omega) (by omega) (by omega) (fun _=>h4) (by omega) (by omega) h5 (by omega) (by omega) (by omega) (by omega) (by omega),he⟩
theorem F6{A:Nat→Prop}{n:Nat}{t:List UInt8}{ks:List V}{o:Int}{d:List V}{cx:List Value}{w:World}(hx:aC A w (.mk 8 n t ks o d) cx)(hv:aj ks≤100000)(hUT:UT w)(ht:t.length≤131072):
  ah TP 93 [.agg cx.toArray] w fun r w'=>∃b,r= .bool b∧(b=true→CF 8 n t ks)∧ay w w':=by
 have hkl:=av ks
 obtain⟨pk,ck,pd,cd,rfl,_,_,hK,_⟩:=hx.openV
 refine aR Tryz.func93 ?_
 have he:=XI w
 refine jA 2 rfl ?_
 have:=he.s
 refine Hb rfl fun w1 hb1 e1=>?_
 refine jD 6 rfl<|ld rfl hb1 rfl<|Hl rfl (aO (s:=4) (by decide)) fun w2 e2=>?_
 refine jD 5 rfl<|Hq (aS rfl rfl)<|jC 2 rfl<|Hg rfl rfl (aY rfl rfl)<|jD 6 rfl<|Hq (eg rfl rfl rfl (by omega) (by omega))<|Hq (bP rfl rfl rfl (by omega) (by omega))<|jD 5 rfl ?_
 replace hb1:=hb1.m e2
 refine ld rfl hb1 rfl<|Hq (bK rfl rfl)<|jC 2 rfl<|lg rfl rfl rfl hb1 rfl<|Hg rfl rfl (aY rfl rfl)<|jC 3 rfl ?_
 replace hK:=(hK.m e1).m e2
 replace hUT:=(hUT.m e1).m e2
 replace hx:=(hx.m e1).m e2
 refine WC.seq<|WC.regionD (tt [0,1,2,3,4,5,6,7,8,9,10,11,12,13,14,15,16,17,18,19,20,21,22,23,24,25,26,27,28]) (ay _) mixed (by kernel_rfl) Xd<|jE 3 rfl<|bl rfl rfl rfl hb1 rfl<|jE 1 rfl<|Hf rfl rfl (fun _ hS=>dA rfl rfl (by decide))<|Hf rfl rfl (fun _ hS=>aL Fo.h rfl)<|jE 1 rfl<|Hf rfl rfl (fun _ hS=>df rfl rfl (by decide))<|Hf rfl rfl (fun _ hS=>aL Fo.h rfl)<|jE 1 rfl<|bl rfl rfl rfl hb1 rfl<|Hf rfl rfl (fun _ hS=>bn rfl rfl)<|jE 2 rfl<|WD.qc rfl rfl rfl rfl (fun hc=>fun _ hS=>aq rfl)<|WD.qc rfl rfl rfl rfl (fun hc=>fun _ hS=>fF (au hc))<|WD.qc rfl rfl rfl rfl (fun hc=>fun _ hS=>aq (au hc))<|WD.qcc rfl rfl rfl rfl (fun hc hx=>fun _ hS=>aa rfl Fo.h)<|WD.qcc rfl rfl rfl rfl (fun hc hx=>fun _ hS=>ao Fb.h (aU hc hx) hS (hb1.get rfl))<|WD.qcc rfl rfl rfl rfl (fun hc hx=>fun _ hS=>aq rfl)<|WD.qcc rfl rfl rfl rfl (fun hc hx=>fun _ hS=>dA (aU hc hx) (aU hc hx) (by decide))<|WD.qcc rfl rfl rfl rfl (fun hc hx=>fun _ hS=>aq rfl)<|WD.qcc rfl rfl rfl rfl (fun hc hx=>fun _ hS=>df (aU hc hx) (aU hc hx) (by decide))<|WD.qcc rfl rfl rfl rfl (fun hc hx=>fun _ hS=>aa rfl Fo.h)<|WD.qcc rfl rfl rfl rfl (fun hc hx=>fun _ hS=>ao Fb.h (aU hc hx) hS (hb1.get rfl))<|WD.qcc rfl rfl rfl rfl (fun hc hx=>fun _ hS=>bn (aU hc hx) (aU hc hx)) ?_
 refine WD.qc rfl rfl rfl rfl (fun hc=>fun _ hS=>bU (au hc) rfl (fun h=>by first|(simp[*];done)|(exfalso;simp at h;done)|(simp_all;done)))<|He (fun _ hS=>cA rfl rfl (fun h=>beq_iff_eq.2 h))<|WD.nil<|WC.cond rfl ?_ ?_
 ·exact gE
 ·intro h2
  have h3:=Gl (E:=min (64-8 * 4:Int).toNat IntKind.u64.bits) (F:=min (64-8 * 4:Int).toNat IntKind.i64.bits) (by decide) (by decide) (bne_eq_false_iff_eq.1 (Bool.or_eq_false_iff.1 h2).1)
  obtain⟨h4,h5⟩:=h3
  refine jB 5 rfl ?_
  replace hb1:=hb1.m Xd
  refine ld rfl hb1 rfl<|jD 51 rfl<|jA 3 rfl<|ld rfl hb1 rfl<|Hq (ak rfl rfl)<|jC 2 rfl<|WC.ret ?_
  replace he:=((he.t e1).t e2).t Xd
  exact aw rfl ⟨_,rfl,fun _=>gI (by omega) (by omega) (by omega) (by omega) (by omega) (by omega) (fun _=>h4) (by omega) h5 (by omega) (by omega) (by omega) (by omega) (by omega),he⟩
theorem F7{A:Nat→Prop}{n:Nat}{t:List UInt8}{ks:List V}{o:Int}{d:List V}{cx:List Value}{w:World}(hx:aC A w (.mk 9 n t ks o d) cx)(hv:aj ks≤100000)(hUT:UT w)(ht:t.length≤131072):
  ah TP 93 [.agg cx.toArray] w fun r w'=>∃b,r= .bool b∧(b=true→CF 9 n t ks)∧ay w w':=by
 have hkl:=av ks
 obtain⟨pk,ck,pd,cd,rfl,_,_,hK,_⟩:=hx.openV
 refine aR Tryz.func93 ?_
 have he:=XI w
 refine jA 2 rfl ?_
 have:=he.s
 refine Hb rfl fun w1 hb1 e1=>?_
 refine jD 6 rfl<|ld rfl hb1 rfl<|Hl rfl (aO (s:=8) (by decide)) fun w2 e2=>?_
 refine jD 5 rfl<|Hq (aS rfl rfl)<|jC 2 rfl<|Hg rfl rfl (aY rfl rfl)<|jD 6 rfl<|Hq (eg rfl rfl rfl (by omega) (by omega))<|Hq (bP rfl rfl rfl (by omega) (by omega))<|jD 5 rfl ?_
 replace hb1:=hb1.m e2
 refine ld rfl hb1 rfl<|Hq (bK rfl rfl)<|jC 2 rfl<|lg rfl rfl rfl hb1 rfl<|Hg rfl rfl (aY rfl rfl)<|jC 3 rfl ?_
 replace hK:=(hK.m e1).m e2
 replace hUT:=(hUT.m e1).m e2
 replace hx:=(hx.m e1).m e2
 refine WC.seq<|WC.regionD (tt [0,1,2,3,4,5,6,7,8,9,10,11,12,13,14,15,16,17,18,19,20,21,22,23,24,25,26,27,28]) (ay _) mixed (by kernel_rfl) Xd<|jE 3 rfl<|bl rfl rfl rfl hb1 rfl<|jE 1 rfl<|Hf rfl rfl (fun _ hS=>dA rfl rfl (by decide))<|Hf rfl rfl (fun _ hS=>aL Fo.h rfl)<|jE 1 rfl<|Hf rfl rfl (fun _ hS=>df rfl rfl (by decide))<|Hf rfl rfl (fun _ hS=>aL Fo.h rfl)<|jE 1 rfl<|bl rfl rfl rfl hb1 rfl<|Hf rfl rfl (fun _ hS=>bn rfl rfl)<|jE 2 rfl<|WD.qc rfl rfl rfl rfl (fun hc=>fun _ hS=>aq rfl)<|WD.qc rfl rfl rfl rfl (fun hc=>fun _ hS=>fF (au hc))<|WD.qc rfl rfl rfl rfl (fun hc=>fun _ hS=>aq (au hc))<|WD.qcc rfl rfl rfl rfl (fun hc hx=>fun _ hS=>aa rfl Fo.h)<|WD.qcc rfl rfl rfl rfl (fun hc hx=>fun _ hS=>ao Fb.h (aU hc hx) hS (hb1.get rfl))<|WD.qcc rfl rfl rfl rfl (fun hc hx=>fun _ hS=>aq rfl)<|WD.qcc rfl rfl rfl rfl (fun hc hx=>fun _ hS=>dA (aU hc hx) (aU hc hx) (by decide))<|WD.qcc rfl rfl rfl rfl (fun hc hx=>fun _ hS=>aq rfl)<|WD.qcc rfl rfl rfl rfl (fun hc hx=>fun _ hS=>df (aU hc hx) (aU hc hx) (by decide))<|WD.qcc rfl rfl rfl rfl (fun hc hx=>fun _ hS=>aa rfl Fo.h)<|WD.qcc rfl rfl rfl rfl (fun hc hx=>fun _ hS=>ao Fb.h (aU hc hx) hS (hb1.get rfl))<|WD.qcc rfl rfl rfl rfl (fun hc hx=>fun _ hS=>bn (aU hc hx) (aU hc hx)) ?_
 refine WD.qc rfl rfl rfl rfl (fun hc=>fun _ hS=>bU (au hc) rfl (fun h=>by first|(simp[*];done)|(exfalso;simp at h;done)|(simp_all;done)))<|He (fun _ hS=>cA rfl rfl (fun h=>beq_iff_eq.2 h))<|WD.nil<|WC.cond rfl ?_ ?_
 ·exact gE
 ·intro h2
  have h3:=Gm (E:=min (64-8 * 8:Int).toNat IntKind.u64.bits) (F:=min (64-8 * 8:Int).toNat IntKind.i64.bits) (by decide) (by decide) (bne_eq_false_iff_eq.1 (Bool.or_eq_false_iff.1 h2).1)
  obtain⟨h4,h5⟩:=h3
  refine jB 5 rfl ?_
  replace hb1:=hb1.m Xd
  refine ld rfl hb1 rfl<|jD 51 rfl<|jA 3 rfl<|ld rfl hb1 rfl<|Hq (ak rfl rfl)<|jC 2 rfl<|WC.ret ?_
  replace he:=((he.t e1).t e2).t Xd
  exact aw rfl ⟨_,rfl,fun _=>gI (by omega) (by omega) (by omega) (by omega) (by omega) (by omega) (by omega) (by omega) h5 (by omega) (by omega) (by omega) (by omega) (by omega),he⟩
theorem EC{A:Nat→Prop}{n:Nat}{t:List UInt8}{ks:List V}{o:Int}{d:List V}{cx:List Value}{w:World}(hx:aC A w (.mk 10 n t ks o d) cx)(hv:aj ks≤100000)(hUT:UT w)(ht:t.length≤131072):
  ah TP 93 [.agg cx.toArray] w fun r w'=>∃b,r= .bool b∧(b=true→CF 10 n t ks)∧ay w w':=by
 have hkl:=av ks
 obtain⟨pk,ck,pd,cd,rfl,_,_,hK,_⟩:=hx.openV
 refine aR Tryz.func93 ?_
 have he:=XI w
 refine jA 2 rfl ?_
 have:=he.s
 refine Hb rfl fun w1 hb1 e1=>?_
 refine jD 6 rfl<|ld rfl hb1 rfl<|Hl rfl (aO (s:=4) (by decide)) fun w2 e2=>?_
 refine jD 5 rfl<|Hq (aS rfl rfl)<|jC 2 rfl<|Hg rfl rfl (aY rfl rfl)<|jD 6 rfl<|Hq (eg rfl rfl rfl (by omega) (by omega))<|Hq (bP rfl rfl rfl (by omega) (by omega))<|jD 5 rfl ?_
 replace hb1:=hb1.m e2
 refine ld rfl hb1 rfl<|Hq (bK rfl rfl)<|jC 2 rfl<|lg rfl rfl rfl hb1 rfl<|Hg rfl rfl (aY rfl rfl)<|jC 3 rfl ?_
 replace hK:=(hK.m e1).m e2
 replace hUT:=(hUT.m e1).m e2
 replace hx:=(hx.m e1).m e2
 refine WC.seq<|WC.regionD (tt [0,1,2,3,4,5,6,7,8,9,10,11,12,13,14,15,16,17,18,19,20,21,22,23,24,25,26,27,28]) (ay _) mixed (by kernel_rfl) Xd<|jE 19 rfl<|bl rfl rfl rfl hb1 rfl<|jE 1 rfl<|Hf rfl rfl (fun _ hS=>dA rfl rfl (by decide))<|jE 1 rfl<|Hf rfl rfl (fun _ hS=>df rfl rfl (by decide))<|jE 1 rfl<|bl rfl rfl rfl hb1 rfl<|Hf rfl rfl (fun _ hS=>bn rfl rfl)<|jE 2 rfl<|WD.nil<|WC.cond rfl ?_ ?_
 ·exact gE
 ·intro h2
  have h3:=wD (E:=min (64-8 * 4:Int).toNat IntKind.u64.bits) (F:=min (64-8 * 4:Int).toNat IntKind.u64.bits) (by decide) (by decide) (bne_eq_false_iff_eq.1 h2)
  exact ol
theorem ED{A:Nat→Prop}{n:Nat}{t:List UInt8}{ks:List V}{o:Int}{d:List V}{cx:List Value}{w:World}(hx:aC A w (.mk 11 n t ks o d) cx)(hv:aj ks≤100000)(hUT:UT w)(ht:t.length≤131072):
  ah TP 93 [.agg cx.toArray] w fun r w'=>∃b,r= .bool b∧(b=true→CF 11 n t ks)∧ay w w':=by
 have hkl:=av ks
 obtain⟨pk,ck,pd,cd,rfl,_,_,hK,_⟩:=hx.openV
 refine aR Tryz.func93 ?_
 have he:=XI w
 refine jA 2 rfl ?_
 have:=he.s
 refine Hb rfl fun w1 hb1 e1=>?_
 refine jD 6 rfl<|ld rfl hb1 rfl<|Hl rfl (aO (s:=8) (by decide)) fun w2 e2=>?_
 refine jD 5 rfl<|Hq (aS rfl rfl)<|jC 2 rfl<|Hg rfl rfl (aY rfl rfl)<|jD 6 rfl<|Hq (eg rfl rfl rfl (by omega) (by omega))<|Hq (bP rfl rfl rfl (by omega) (by omega))<|jD 5 rfl ?_
 replace hb1:=hb1.m e2
 refine ld rfl hb1 rfl<|Hq (bK rfl rfl)<|jC 2 rfl<|lg rfl rfl rfl hb1 rfl<|Hg rfl rfl (aY rfl rfl)<|jC 3 rfl ?_
 exact rS
theorem EE{A:Nat→Prop}{n:Nat}{t:List UInt8}{ks:List V}{o:Int}{d:List V}{cx:List Value}{w:World}(hx:aC A w (.mk 12 n t ks o d) cx)(hv:aj ks≤100000)(hUT:UT w)(ht:t.length≤131072):
  ah TP 93 [.agg cx.toArray] w fun r w'=>∃b,r= .bool b∧(b=true→CF 12 n t ks)∧ay w w':=by
 have hkl:=av ks
 obtain⟨pk,ck,pd,cd,rfl,_,_,hK,_⟩:=hx.openV
 refine aR Tryz.func93 ?_
 have he:=XI w
 refine jA 2 rfl ?_
 have:=he.s
 refine Hb rfl fun w1 hb1 e1=>?_
 refine jD 6 rfl<|ld rfl hb1 rfl<|Hl rfl (aO (s:=4) (by decide)) fun w2 e2=>?_
 refine jD 5 rfl<|Hq (aS rfl rfl)<|jC 2 rfl<|Hg rfl rfl (aY rfl rfl)<|jD 6 rfl<|Hq (eg rfl rfl rfl (by omega) (by omega))<|Hq (bP rfl rfl rfl (by omega) (by omega))<|jD 5 rfl ?_
 replace hb1:=hb1.m e2
 refine ld rfl hb1 rfl<|Hq (bK rfl rfl)<|jC 2 rfl<|lg rfl rfl rfl hb1 rfl<|Hg rfl rfl (aY rfl rfl)<|jC 3 rfl ?_
 replace hK:=(hK.m e1).m e2
 replace hUT:=(hUT.m e1).m e2
 replace hx:=(hx.m e1).m e2
 refine WC.seq<|WC.regionD (tt [0,1,2,3,4,5,6,7,8,9,10,11,12,13,14,15,16,17,18,19,20,21,22,23,24,25,26,27,28]) (ay _) mixed (by kernel_rfl) Xd<|jE 19 rfl<|bl rfl rfl rfl hb1 rfl<|jE 1 rfl<|Hf rfl rfl (fun _ hS=>dA rfl rfl (by decide))<|jE 1 rfl<|Hf rfl rfl (fun _ hS=>df rfl rfl (by decide))<|jE 1 rfl<|bl rfl rfl rfl hb1 rfl<|Hf rfl rfl (fun _ hS=>bn rfl rfl)<|jE 2 rfl<|WD.nil<|WC.cond rfl ?_ ?_
 ·exact gE
 ·intro h2
  have h3:=wD (E:=min (64-8 * 4:Int).toNat IntKind.u64.bits) (F:=min (64-8 * 4:Int).toNat IntKind.u64.bits) (by decide) (by decide) (bne_eq_false_iff_eq.1 h2)
  exact ol
theorem EF{A:Nat→Prop}{n:Nat}{t:List UInt8}{ks:List V}{o:Int}{d:List V}{cx:List Value}{w:World}(hx:aC A w (.mk 13 n t ks o d) cx)(hv:aj ks≤100000)(hUT:UT w)(ht:t.length≤131072):
  ah TP 93 [.agg cx.toArray] w fun r w'=>∃b,r= .bool b∧(b=true→CF 13 n t ks)∧ay w w':=by
 have hkl:=av ks
 obtain⟨pk,ck,pd,cd,rfl,_,_,hK,_⟩:=hx.openV
 refine aR Tryz.func93 ?_
 have he:=XI w
 refine jA 2 rfl ?_
 have:=he.s
 refine Hb rfl fun w1 hb1 e1=>?_
 refine jD 6 rfl<|ld rfl hb1 rfl<|Hl rfl (aO (s:=8) (by decide)) fun w2 e2=>?_
 refine jD 5 rfl<|Hq (aS rfl rfl)<|jC 2 rfl<|Hg rfl rfl (aY rfl rfl)<|jD 6 rfl<|Hq (eg rfl rfl rfl (by omega) (by omega))<|Hq (bP rfl rfl rfl (by omega) (by omega))<|jD 5 rfl ?_
 replace hb1:=hb1.m e2
 refine ld rfl hb1 rfl<|Hq (bK rfl rfl)<|jC 2 rfl<|lg rfl rfl rfl hb1 rfl<|Hg rfl rfl (aY rfl rfl)<|jC 3 rfl ?_
 exact rS
theorem EG{A:Nat→Prop}{n:Nat}{t:List UInt8}{ks:List V}{o:Int}{d:List V}{cx:List Value}{w:World}(hx:aC A w (.mk 14 n t ks o d) cx)(hv:aj ks≤100000)(hUT:UT w)(ht:t.length≤131072)(hn:n=0):
  ah TP 93 [.agg cx.toArray] w fun r w'=>∃b,r= .bool b∧(b=true→CF 14 n t ks)∧ay w w':=by
 have hkl:=av ks
 obtain⟨pk,ck,pd,cd,rfl,_,_,hK,_⟩:=hx.openV
 refine aR Tryz.func93 ?_
 have he:=XI w
 refine jA 2 rfl ?_
 have:=he.s
 refine Hb rfl fun w1 hb1 e1=>?_
 refine jD 6 rfl<|ld rfl hb1 rfl<|Hl rfl (aO (s:=16) (by decide)) fun w2 e2=>?_
 refine jD 5 rfl<|Hq (aS rfl rfl)<|jC 2 rfl<|Hg rfl rfl (aY rfl rfl)<|jD 4 rfl<|jA 4 rfl ?_
 replace hb1:=hb1.m e2
 refine ld rfl hb1 rfl<|jD 26 rfl<|ld rfl hb1 rfl<|Hq (jm Fb.h rfl)<|Hq (ak rfl rfl)<|jC 2 rfl<|WC.ret ?_
 exact AA
theorem EH{A:Nat→Prop}{n:Nat}{t:List UInt8}{ks:List V}{o:Int}{d:List V}{cx:List Value}{w:World}(hx:aC A w (.mk 15 n t ks o d) cx)(hv:aj ks≤100000)(hUT:UT w)(ht:t.length≤131072):
  ah TP 93 [.agg cx.toArray] w fun r w'=>∃b,r= .bool b∧(b=true→CF 15 n t ks)∧ay w w':=by
 have hkl:=av ks
 obtain⟨pk,ck,pd,cd,rfl,_,_,hK,_⟩:=hx.openV
 refine aR Tryz.func93 ?_
 have he:=XI w
 refine jA 2 rfl ?_
 have:=he.s
 refine Hb rfl fun w1 hb1 e1=>?_
 refine jD 6 rfl<|ld rfl hb1 rfl<|Hl rfl (aO (s:=4) (by decide)) fun w2 e2=>?_
 refine jD 5 rfl<|Hq (aS rfl rfl)<|jC 2 rfl<|Hg rfl rfl (aY rfl rfl)<|jD 6 rfl<|Hq (eg rfl rfl rfl (by omega) (by omega))<|Hq (bP rfl rfl rfl (by omega) (by omega))<|jD 5 rfl ?_
 replace hb1:=hb1.m e2
 refine ld rfl hb1 rfl<|Hq (bK rfl rfl)<|jC 2 rfl<|lg rfl rfl rfl hb1 rfl<|Hg rfl rfl (aY rfl rfl)<|jC 3 rfl ?_
 replace hK:=(hK.m e1).m e2
 replace hUT:=(hUT.m e1).m e2
 replace hx:=(hx.m e1).m e2
 refine WC.seq<|WC.regionD (tt [0,1,2,3,4,5,6,7,8,9,10,11,12,13,14,15,16,17,18,19,20,21,22,23,24,25,26,27,28]) (ay _) mixed (by kernel_rfl) Xd<|jE 19 rfl<|bl rfl rfl rfl hb1 rfl<|jE 1 rfl<|Hf rfl rfl (fun _ hS=>dA rfl rfl (by decide))<|jE 1 rfl<|Hf rfl rfl (fun _ hS=>df rfl rfl (by decide))<|jE 1 rfl<|bl rfl rfl rfl hb1 rfl<|Hf rfl rfl (fun _ hS=>bn rfl rfl)<|jE 2 rfl<|WD.nil<|WC.cond rfl ?_ ?_
 ·exact gE
 ·intro h2
  have h3:=wD (E:=min (64-8 * 4:Int).toNat IntKind.u64.bits) (F:=min (64-8 * 4:Int).toNat IntKind.u64.bits) (by decide) (by decide) (bne_eq_false_iff_eq.1 h2)
  refine jB 5 rfl ?_
  replace hb1:=hb1.m Xd
  refine ld rfl hb1 rfl<|jD 17 rfl<|ld rfl hb1 rfl<|Hq (aY rfl rfl)<|jC 1 rfl<|Hc rfl rfl (fun hc=>aa rfl Fo.h)<|Hk rfl rfl rfl hb1 rfl<|Hc rfl rfl (fun hc=>ef (au hc) rfl)<|Hc rfl rfl (fun hc=>aq (au hc))<|WL.qcc rfl rfl rfl rfl (fun hc hx=>aa rfl Fo.h)<|WL.qcc rfl rfl rfl rfl (fun hc hx=>ao Fb.h (aU hc hx) Xr (hb1.get rfl))<|WL.qcc rfl rfl rfl rfl (fun hc hx=>aS (aU hc hx) rfl)<|Hc rfl rfl (fun hc=>cA (au hc) rfl (fun h=>by first|(simp[*];done)|(exfalso;simp at h;done)|(simp_all;done)))<|Hq (bU rfl rfl (fun h=>beq_iff_eq.2 h))<|jC 2 rfl<|WC.ret ?_
  replace he:=((he.t e1).t e2).t Xd
  exact rT
theorem EI{A:Nat→Prop}{n:Nat}{t:List UInt8}{ks:List V}{o:Int}{d:List V}{cx:List Value}{w:World}(hx:aC A w (.mk 16 n t ks o d) cx)(hv:aj ks≤100000)(hUT:UT w)(ht:t.length≤131072):
  ah TP 93 [.agg cx.toArray] w fun r w'=>∃b,r= .bool b∧(b=true→CF 16 n t ks)∧ay w w':=by
 have hkl:=av ks
 obtain⟨pk,ck,pd,cd,rfl,_,_,hK,_⟩:=hx.openV
 refine aR Tryz.func93 ?_
 have he:=XI w
 refine jA 2 rfl ?_
 have:=he.s
 refine Hb rfl fun w1 hb1 e1=>?_
 refine jD 6 rfl<|ld rfl hb1 rfl<|Hl rfl (aO (s:=8) (by decide)) fun w2 e2=>?_
 refine jD 5 rfl<|Hq (aS rfl rfl)<|jC 2 rfl<|Hg rfl rfl (aY rfl rfl)<|jD 6 rfl<|Hq (eg rfl rfl rfl (by omega) (by omega))<|Hq (bP rfl rfl rfl (by omega) (by omega))<|jD 5 rfl ?_
 replace hb1:=hb1.m e2
 refine ld rfl hb1 rfl<|Hq (bK rfl rfl)<|jC 2 rfl<|lg rfl rfl rfl hb1 rfl<|Hg rfl rfl (aY rfl rfl)<|jC 3 rfl ?_
 exact rS
theorem EJ{A:Nat→Prop}{n:Nat}{t:List UInt8}{ks:List V}{o:Int}{d:List V}{cx:List Value}{w:World}(hx:aC A w (.mk 17 n t ks o d) cx)(hv:aj ks≤100000)(hUT:UT w)(ht:t.length≤131072)(hn:n=0):
  ah TP 93 [.agg cx.toArray] w fun r w'=>∃b,r= .bool b∧(b=true→CF 17 n t ks)∧ay w w':=by
 have hkl:=av ks
 obtain⟨pk,ck,pd,cd,rfl,_,_,hK,_⟩:=hx.openV
 refine aR Tryz.func93 ?_
 have he:=XI w
 refine jA 2 rfl ?_
 have:=he.s
 refine Hb rfl fun w1 hb1 e1=>?_
 refine jD 6 rfl<|ld rfl hb1 rfl<|Hl rfl (aO (s:=16) (by decide)) fun w2 e2=>?_
 refine jD 5 rfl<|Hq (aS rfl rfl)<|jC 2 rfl<|Hg rfl rfl (aY rfl rfl)<|jD 4 rfl<|jA 4 rfl ?_
 replace hb1:=hb1.m e2
 refine ld rfl hb1 rfl<|jD 29 rfl<|ld rfl hb1 rfl<|Hq (jm Fb.h rfl)<|Hq (ak rfl rfl)<|jC 2 rfl<|WC.ret ?_
 exact AA
theorem EK{A:Nat→Prop}{n:Nat}{t:List UInt8}{ks:List V}{o:Int}{d:List V}{cx:List Value}{w:World}(hx:aC A w (.mk 18 n t ks o d) cx)(hv:aj ks≤100000)(hUT:UT w)(ht:t.length≤131072)(hn:n=0):
  ah TP 93 [.agg cx.toArray] w fun r w'=>∃b,r= .bool b∧(b=true→CF 18 n t ks)∧ay w w':=by
 have hkl:=av ks
 obtain⟨pk,ck,pd,cd,rfl,_,_,hK,_⟩:=hx.openV
 refine aR Tryz.func93 ?_
 have he:=XI w
 refine jA 2 rfl ?_
 have:=he.s
 refine Hb rfl fun w1 hb1 e1=>?_
 refine jD 6 rfl<|ld rfl hb1 rfl<|Hl rfl (aO (s:= -1) (by decide)) fun w2 e2=>?_
 refine jD 5 rfl<|Hq (aS rfl rfl)<|jD 7 rfl<|jA 4 rfl ?_
 replace hb1:=hb1.m e2
 refine ld rfl hb1 rfl<|jD 51 rfl<|jA 3 rfl<|ld rfl hb1 rfl<|Hq (ak rfl rfl)<|jC 2 rfl<|WC.ret ?_
 replace he:=(he.t e1).t e2
 exact rT
theorem EL{A:Nat→Prop}{n:Nat}{t:List UInt8}{ks:List V}{o:Int}{d:List V}{cx:List Value}{w:World}(hx:aC A w (.mk 19 n t ks o d) cx)(hv:aj ks≤100000)(hUT:UT w)(ht:t.length≤131072)(hn:n=0):
  ah TP 93 [.agg cx.toArray] w fun r w'=>∃b,r= .bool b∧(b=true→CF 19 n t ks)∧ay w w':=by
 have hkl:=av ks
 obtain⟨pk,ck,pd,cd,rfl,_,_,hK,_⟩:=hx.openV
 refine aR Tryz.func93 ?_
 have he:=XI w
 refine jA 2 rfl ?_
 have:=he.s
 refine Hb rfl fun w1 hb1 e1=>?_
 refine jD 6 rfl<|ld rfl hb1 rfl<|Hl rfl (aO (s:= -1) (by decide)) fun w2 e2=>?_
 refine jD 5 rfl<|Hq (aS rfl rfl)<|jD 7 rfl<|jA 4 rfl ?_
 replace hb1:=hb1.m e2
 refine ld rfl hb1 rfl<|jD 35 rfl<|ld rfl hb1 rfl ?_
 replace hUT:=(hUT.m e1).m e2
 refine Hl rfl (tD hUT (by omega)) fun w3 e3=>?_
 refine jC 2 rfl<|WC.ret ?_
 replace he:=((he.t e1).t e2).t e3
 exact aw rfl ⟨_,rfl,fun hb=>gI (by omega) (by omega) (by omega) (by omega) (by omega) (by omega) (by omega) (by omega) (by omega) (by omega) (fun _=>hb) (by omega) (by omega) (by omega),he⟩
theorem EM{A:Nat→Prop}{n:Nat}{t:List UInt8}{ks:List V}{o:Int}{d:List V}{cx:List Value}{w:World}(hx:aC A w (.mk 20 n t ks o d) cx)(hv:aj ks≤100000)(hUT:UT w)(ht:t.length≤131072)(hn:n=0):
  ah TP 93 [.agg cx.toArray] w fun r w'=>∃b,r= .bool b∧(b=true→CF 20 n t ks)∧ay w w':=by
 have hkl:=av ks
 obtain⟨pk,ck,pd,cd,rfl,_,_,hK,_⟩:=hx.openV
 refine aR Tryz.func93 ?_
 have he:=XI w
 refine jA 2 rfl ?_
 have:=he.s
 refine Hb rfl fun w1 hb1 e1=>?_
 refine jD 6 rfl<|ld rfl hb1 rfl<|Hl rfl (aO (s:= -1) (by decide)) fun w2 e2=>?_
 refine jD 5 rfl<|Hq (aS rfl rfl)<|jD 7 rfl<|jA 4 rfl ?_
 replace hb1:=hb1.m e2
 refine ld rfl hb1 rfl<|jD 41 rfl<|ld rfl hb1 rfl<|cl rfl (qq ht) ?_
 rintro v3 w3 ⟨zb,rfl,nA,e3⟩
 refine jC 2 rfl<|WC.ret ?_
 replace he:=((he.t e1).t e2).t e3
 exact aw rfl ⟨_,rfl,fun hb=>gI (by omega) (by omega) (by omega) (by omega) (by omega) (by omega) (by omega) (by omega) (by omega) (by omega) (by omega) (fun _=>nA hb) (by omega) (by omega),he⟩
theorem EN{A:Nat→Prop}{n:Nat}{t:List UInt8}{ks:List V}{o:Int}{d:List V}{cx:List Value}{w:World}(hx:aC A w (.mk 21 n t ks o d) cx)(hv:aj ks≤100000)(hUT:UT w)(ht:t.length≤131072)(hn:n=0):
  ah TP 93 [.agg cx.toArray] w fun r w'=>∃b,r= .bool b∧(b=true→CF 21 n t ks)∧ay w w':=by
 have hkl:=av ks
 obtain⟨pk,ck,pd,cd,rfl,_,_,hK,_⟩:=hx.openV
 refine aR Tryz.func93 ?_
 have he:=XI w
 refine jA 2 rfl ?_
 have:=he.s
 refine Hb rfl fun w1 hb1 e1=>?_
 refine jD 6 rfl<|ld rfl hb1 rfl<|Hl rfl (aO (s:= -1) (by decide)) fun w2 e2=>?_
 refine jD 5 rfl<|Hq (aS rfl rfl)<|jD 7 rfl<|jA 4 rfl ?_
 replace hb1:=hb1.m e2
 refine ld rfl hb1 rfl<|jD 51 rfl<|jA 3 rfl<|ld rfl hb1 rfl<|Hq (ak rfl rfl)<|jC 2 rfl<|WC.ret ?_
 replace he:=(he.t e1).t e2
 exact rT
theorem EO{A:Nat→Prop}{n:Nat}{t:List UInt8}{ks:List V}{o:Int}{d:List V}{cx:List Value}{w:World}(hx:aC A w (.mk 22 n t ks o d) cx)(hv:aj ks≤100000)(hUT:UT w)(ht:t.length≤131072)(hn:n=0):
  ah TP 93 [.agg cx.toArray] w fun r w'=>∃b,r= .bool b∧(b=true→CF 22 n t ks)∧ay w w':=by
 have hkl:=av ks
 obtain⟨pk,ck,pd,cd,rfl,_,_,hK,_⟩:=hx.openV
 refine aR Tryz.func93 ?_
 have he:=XI w
 refine jA 2 rfl ?_
 have:=he.s
 refine Hb rfl fun w1 hb1 e1=>?_
 refine jD 6 rfl<|ld rfl hb1 rfl<|Hl rfl (aO (s:= -1) (by decide)) fun w2 e2=>?_
 refine jD 5 rfl<|Hq (aS rfl rfl)<|jD 7 rfl<|jA 4 rfl ?_
 replace hb1:=hb1.m e2
 refine ld rfl hb1 rfl<|jD 47 rfl<|ld rfl hb1 rfl<|jC 1 rfl<|Hq (pF (by decide) rfl rfl)<|Hq (ak rfl rfl)<|jC 2 rfl<|WC.ret ?_
 replace he:=(he.t e1).t e2
 exact aw rfl ⟨_,rfl,fun hb=>gI (by omega) (by omega) (by omega) (by omega) (by omega) (by omega) (by omega) (by omega) (by omega) (by omega) (by omega) (by omega) (fun _=>by have h9:=eq_of_beq hb;have h8:(ks.length:Int).tmod 2=(ks.length:Int)%2:=Int.tmod_eq_emod_of_nonneg (by omega);rw[h8]at h9;omega) (by omega),he⟩
theorem EP{A:Nat→Prop}{n:Nat}{t:List UInt8}{ks:List V}{o:Int}{d:List V}{cx:List Value}{w:World}(hx:aC A w (.mk 23 n t ks o d) cx)(hv:aj ks≤100000)(hUT:UT w)(ht:t.length≤131072)(hn:n=0):
  ah TP 93 [.agg cx.toArray] w fun r w'=>∃b,r= .bool b∧(b=true→CF 23 n t ks)∧ay w w':=by
 have hkl:=av ks
 obtain⟨pk,ck,pd,cd,rfl,_,_,hK,_⟩:=hx.openV
 refine aR Tryz.func93 ?_
 have he:=XI w
 refine jA 2 rfl ?_
 have:=he.s
 refine Hb rfl fun w1 hb1 e1=>?_
 refine jD 6 rfl<|ld rfl hb1 rfl<|Hl rfl (aO (s:= -1) (by decide)) fun w2 e2=>?_
 refine jD 5 rfl<|Hq (aS rfl rfl)<|jD 7 rfl<|jA 4 rfl ?_
 replace hb1:=hb1.m e2
 refine ld rfl hb1 rfl<|jD 52 rfl<|Hq (ad Fo.h rfl Xr hb1.at (hn:=rfl)) ?_
 replace hx:=(hx.m e1).m e2
 refine cl rfl (qm hx hv) ?_
 rintro v3 w3 ⟨zb,rfl,nA,e3⟩
 refine jC 2 rfl<|WC.ret ?_
 replace he:=((he.t e1).t e2).t e3
 exact aw rfl ⟨_,rfl,fun hb=>gI (by omega) (by omega) (by omega) (by omega) (by omega) (by omega) (by omega) (by omega) (by omega) (by omega) (by omega) (by omega) (by omega) (fun _=>nA hb),he⟩
theorem jb{A:Nat→Prop}{k:Int}{n:Nat}{t:List UInt8}{ks:List V}{o:Int}{d:List V}{cx:List Value}{w:World}(hx:aC A w (.mk k n t ks o d) cx)(hv:aj ks≤100000)(hUT:UT w)(ht:t.length≤131072)(h0:0≤k)(h1:k≤23)(hn:k=0∨k=14∨17≤k→n=0):
  ah TP 93 [.agg cx.toArray] w fun r w'=>∃b,r= .bool b∧(b=true→CF k n t ks)∧ay w w':=by
 rcases(show k=0∨k=1∨k=2∨k=3∨k=4∨k=5∨k=6∨k=7∨k=8∨k=9∨k=10∨k=11∨k=12∨k=13∨k=14∨k=15∨k=16∨k=17∨k=18∨k=19∨k=20∨k=21∨k=22∨k=23 by omega)with rfl|rfl|rfl|rfl|rfl|rfl|rfl|rfl|rfl|rfl|rfl|rfl|rfl|rfl|rfl|rfl|rfl|rfl|rfl|rfl|rfl|rfl|rfl|rfl
 ·exact FY hx hv hUT ht (hn (by omega))
 ·exact FZ hx hv hUT ht
 ·exact F0 hx hv hUT ht
 ·exact F1 hx hv hUT ht
 ·exact F2 hx hv hUT ht
 ·exact F3 hx hv hUT ht
 ·exact F4 hx hv hUT ht
 ·exact F5 hx hv hUT ht
 ·exact F6 hx hv hUT ht
 ·exact F7 hx hv hUT ht
 ·exact EC hx hv hUT ht
 ·exact ED hx hv hUT ht
 ·exact EE hx hv hUT ht
 ·exact EF hx hv hUT ht
 ·exact EG hx hv hUT ht (hn (by omega))
 ·exact EH hx hv hUT ht
 ·exact EI hx hv hUT ht
 ·exact EJ hx hv hUT ht (hn (by omega))
 ·exact EK hx hv hUT ht (hn (by omega))
 ·exact EL hx hv hUT ht (hn (by omega))
 ·exact EM hx hv hUT ht (hn (by omega))
 ·exact EN hx hv hUT ht (hn (by omega))
 ·exact EO hx hv hUT ht (hn (by omega))
 ·exact EP hx hv hUT ht (hn (by omega))
end Go.Proofs.LL
