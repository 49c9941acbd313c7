/- Contracts of functions and own laws. Conditions: those that each theorem states. -/
import Derived.Test.YtdgbmbjkbmpcbaaGreatDoorV54
set_option linter.all false
set_option autoImplicit true
set_option relaxedAutoImplicit true
set_option maxRecDepth 20000
namespace Go.Proofs.LL
open Go Go.Proofs Go.RowKit
set_option maxHeartbeats 4000000
attribute [local irreducible] ar WL WC cq WT WX
theorem vM.if(h:vM N0 s w v):∃T u,v= .iface T u:=by
 obtain⟨g,_,h⟩:=h
 rcases h with⟨_,rfl,_⟩|⟨_,rfl⟩|⟨_,rfl,_⟩|⟨_,rfl⟩|⟨_,rfl,_⟩<;>exact⟨_,_,rfl⟩
theorem j9.one(h:j9 A w s cs):cs.all (fun v=>v.oneCell')=true:=by
 obtain⟨fv,pa,ca,rfl,hF,_⟩:=h.ex
 obtain⟨p,c,rfl,_⟩:=hF.ex
 rfl
theorem nH{l:List gF}(hok:∀s∈l,kH s)(hA:∀s∈l,ia s)(hUT:UT w)(h:jS N0 l w v):
  ah TP 72 [v] w fun r w'=>∃l' u,r= .tuple #[u,.bool true]∧nf (fun b=>w.heap.size≤b) w' l' u∧Db l l'∧(∀s∈l',kH s)∧l'.length≤1∧ay w w':=by
 rcases h with⟨rfl,rfl⟩|⟨s,rfl,hS⟩
 ·refine cN Tryz.func72 ?_
  have he:=XI w
  refine uA 9 rfl<|Hq (pE Fb.h rfl)<|uD 7 rfl<|WC.ret ?_
  exact bt rfl rfl ⟨[],_,rfl,⟨none,0,rfl,Nat.le_refl _,fun h=>by cases h⟩,.inl ⟨rfl,rfl⟩,fun s h=>(by cases h),by simp,he⟩
 ·have hif:=hS.if
  obtain⟨T,u,rfl⟩:=hif
  refine cN Tryz.func72 ?_
  have he:=Hi w
  refine uA 9 rfl<|Hq (aF Fb.h rfl)<|uD 3 rfl<|uA 3 rfl<|cl rfl (xV (hok s (by simp)) (hA s (by simp)) hUT hS) ?_
  rintro v1 w1 ⟨s',a0,a1,a2,a3,a4,a5,a6,rfl,hR,qB,qO,e1⟩
  have q1:=hR.one
  have:=e1.s
  refine uC 3 rfl ?_
  replace he:=he.t e1
  have:=he.s
  refine Ha fun w2 hb2 e2=>?_
  have:=hb2.lt
  have:=e2.s
  refine Ho rfl rfl hb2 fun w3 hb2 e3 hz3=>?_
  have:=e3.s
  refine uD 4 rfl<|la rfl hb2 ?_
  replace he:=he.t (e2.t e3)
  have:=he.s
  have:=hb2.lt
  refine WL.l rfl (ll [_]) ?_
  rintro _ w4 ⟨rfl,hb4,e4⟩
  have:=e4.s
  refine uC 4 rfl<|WC.ret ?_
  replace hR:=(hR.m (e2.t e3)).m e4
  replace he:=he.t e4
  exact bt rfl rfl ⟨[s'],_,rfl,⟨_,1,rfl,Nat.le_refl _,fun _=>⟨s',_,0,_,rfl,rfl,(by show w.heap.size≤_;omega),hb4.lt,hb4.at,.inl hR⟩⟩,.inr ⟨s,s',rfl,rfl,qB⟩,fun t ht=>(by rw[List.mem_singleton]at ht;subst ht;exact qO),by simp,he.k fun k hk _=>hk⟩
structure yh (k:IntKind) (A:Nat→Prop) (l:List Nat) (w:World) (v:Value):Prop where
 ex:(l=[]∧v= .pointer none)∨∃n g,l=[n]∧v= .pointer (some ⟨g,0,none⟩)∧A g∧aH w g [.int k (n:Int)]
theorem yh.m(h:yh k A l w v)(e:am B w w')(hAB:∀b,b<w.heap.size→A b→B b:=by(intro b hb1 hb2;first|exact trivial|exact hb2|exact hb2.2|((try dsimp only[Nb]at hb2⊢);omega))):yh k A l w' v:=
 ⟨h.ex.imp id fun⟨n,g,a,b,c,d⟩=>⟨n,g,a,b,c,d.m e (hAB g d.lt c)⟩⟩
theorem eQ.toT(h:eQ k N0 l w v):yh k (fun b=>b<w.heap.size) l w v:=⟨h.imp id fun⟨n,g,a,b,_,d⟩=>⟨n,g,a,b,d.lt,d⟩⟩
theorem cP(h:yh .u32 A l w v):ah TP 73 [v] w fun r w'=>dT .u32 (fun b=>w.heap.size≤b) w' l r∧ay w w':=
 yQ (N0:=0) (h.ex.imp id fun⟨n,g,a,b,_,d⟩=>⟨n,g,a,b,Nat.zero_le _,d⟩)
theorem oJ{v1 v2 v3 v6 v7 v11:Value}(hok:kK x)(hA:∀s∈x.st,ia s)(hUT:UT w)(hX:aH w xb [.int .u32 (x.hdl:Int),v1,v2,v3,.bool x.stl,.bool x.more,v6,v7,.bool x.res,.bool x.abo,.bool x.bat,v11])(hP1:eQ .u32 N0 x.did w v1)(hI2:bT A w v2 x.tag)(htl:x.tag.length≤1000000000)(hP3:eQ .u32 N0 x.fmt w v3)(hP6:eQ .u8 N0 x.rm w v6)(hS7:jS N0 x.st w v7)(hI11:bT A w v11 pl)(hpl:pl.length≤1000000000):
  ah TP 43 [.pointer (some ⟨xb,0,none⟩)] w fun r w'=>∃x' cells,r= .tuple #[.agg cells.toArray,.bool true]∧oW (fun b=>w.heap.size≤b) w' x' cells∧Ew x x'∧x'.pay=pl∧kK x'∧ay w w':=by
 have:=hUT.lt
 have:=hX.lt
 obtain⟨hdl,did,tag,fmt,stl,more,rm,st,res,abo,bat,pay⟩:=x
 obtain⟨o1,o2,o3,o4,o5⟩:=hok
 dsimp only at hX hP1 hI2 htl hP3 hP6 hS7 hA o1 o2 o3 o4 o5
 replace hP1:=hP1.toT
 replace hP3:=hP3.toT
 replace hI2:=hI2.k (B:=fun b=>b<w.heap.size) (fun b hb _=>hb)
 replace hI11:=hI11.k (B:=fun b=>b<w.heap.size) (fun b hb _=>hb)
 rcases hP6 with⟨rfl,rfl⟩|⟨n,g,rfl,rfl,hg,hB⟩
 ·refine co Tryz.func43 ?_
  have he:=Hi w
  refine uA 2 rfl ?_
  have hs1:=he.s
  refine Ha fun w1 hb1 e1=>?_
  have nx1:=hb1.lt
  have ns1:=e1.s
  refine uD 7 rfl ?_
  replace hX:=hX.m e1
  refine ld rfl hX rfl ?_
  replace hUT:=hUT.m e1
  refine cl rfl (nH o5.2 hA hUT (hS7.ext e1)) ?_
  rintro v2 w2 ⟨l',sv,rfl,hZS,qSB,qok,ql,e2⟩
  obtain⟨ps,cs,hsv,_⟩:=hZS.ex
  subst hsv
  have ns2:=e2.s
  refine uC 6 rfl ?_
  replace hX:=hX.m e2
  replace hUT:=hUT.m e2
  replace hP1:=(hP1.m e1).m e2
  replace hP3:=(hP3.m e1).m e2
  replace hI2:=(hI2.m e1).m e2
  replace hI11:=(hI11.m e1).m e2
  replace hb1:=hb1.m e2
  refine WC.seq<|WC.regionT (.q 0 (.q 1 (.q 2 (.q 3 (.q 4 (.q 5 (.q 6 (.q 7 (.q 9 (.q 10 (.q 11 (.q 12 (.q 14 (.q 15 (.q 16 (.q 17 (.q 19 (.q 20 (.q 21 (.q 22 (.q 23 (.q 24 (.q 25 (.q 26 (.q 27 (.q 28 (.q 29 (.q 30 (.q 31 (.q 32 (.q 33 (.q 34 (.q 35 (.q 36 (.q 37 (.q 38 (.q 39 (.q 40 (.q 41 (.q 42 (.q 43 (.alt (.l 8 (.alt (.l 13 (.alt (.l 18 (.alt (.l 44 (.q 45 (.l 46 (.l 47 (.nil))))) (.l 46 (.l 44 (.q 45 (.l 47 (.nil))))))) (.l 46 (.l 18 (.l 44 (.q 45 (.l 47 (.nil)))))))) (.l 46 (.l 13 (.l 18 (.l 44 (.q 45 (.l 47 (.nil))))))))) (.l 46 (.l 8 (.l 13 (.l 18 (.l 44 (.q 45 (.l 47 (.nil)))))))))))))))))))))))))))))))))))))))))))))))))) (ay _) mixed (by kernel_rfl) Xd ?_
  have nd1w2:w2.drew.heap.size=w2.heap.size:=rfl
  refine Hy rfl (aq rfl)<|Hy rfl (bE rfl)<|Hy rfl (aa rfl Fo.h)<|Hx rfl (fun _ hS=>ao Fb.h rfl hS (hX.get rfl))<|Hy rfl (aq rfl)<|Hy rfl (bE rfl)<|Hy rfl (aa rfl Fo.h)<|Hx rfl (fun _ hS=>ao Fb.h rfl hS (hX.get rfl))<|Hy rfl (aq rfl)<|Hy rfl (bE rfl)<|Hy rfl (aa rfl Fo.h)<|Hx rfl (fun _ hS=>ao Fb.h rfl hS (hX.get rfl))<|Hy rfl (aq rfl)<|Hy rfl (bE rfl)<|Hy rfl (aa rfl Fo.h)<|Hx rfl (fun _ hS=>ao Fb.h rfl hS (hX.get rfl))<|Hy rfl (aq rfl)<|Hy rfl (bE rfl)<|Hy rfl (aa rfl Fo.h)<|Hx rfl (fun _ hS=>ao Fb.h rfl hS (hX.get rfl))<|Hy rfl (aq rfl)<|Hy rfl (bE rfl)<|Hy rfl (aa rfl Fo.h)<|Hx rfl (fun _ hS=>ao Fb.h rfl hS (hX.get rfl))<|Hy rfl (aq rfl)<|Hy rfl (aq rfl)<|Hy rfl (bE rfl)<|Hy rfl (aa rfl Fo.h)<|Hx rfl (fun _ hS=>ao Fb.h rfl hS (hX.get rfl))<|Hy rfl (aq rfl)<|Hy rfl (bE rfl)<|Hy rfl (aa rfl Fo.h)<|Hx rfl (fun _ hS=>ao Fb.h rfl hS (hX.get rfl))<|Hy rfl (aq rfl)<|Hy rfl (bE rfl)<|Hy rfl (aa rfl Fo.h)<|Hx rfl (fun _ hS=>ao Fb.h rfl hS (hX.get rfl))<|Hy rfl (aq rfl)<|Hy rfl (bE rfl)<|Hy rfl (aa rfl Fo.h)<|Hx rfl (fun _ hS=>ao Fb.h rfl hS (hX.get rfl))<|WX.alt ?_ ?_
  ·refine cx rfl rfl (cP (hP1.m Xd)) ?_
   rintro v3 w3 ⟨hZD,e3⟩
   obtain⟨pd,cd,hdv,_⟩:=hZD.ex
   subst hdv
   have ns3:=e3.s
   refine⟨(Vd.t e3),?_⟩
   refine WX.alt ?_ ?_
   ·refine cx rfl rfl (bH ((hI2.m Xd).m e3) htl) ?_
    rintro v4 w4 ⟨⟨N2,nN2,hO2⟩,e4⟩
    obtain⟨q2,c2,hq2,_,_⟩:=hO2.form
    subst hq2
    have ns4:=e4.s
    refine⟨((Vd.t e3).t e4),?_⟩
    refine WX.alt ?_ ?_
    ·refine cx rfl rfl (cP (((hP3.m Xd).m e3).m e4)) ?_
     rintro v5 w5 ⟨hZF,e5⟩
     obtain⟨pf,cf,hfv,_⟩:=hZF.ex
     subst hfv
     have ns5:=e5.s
     refine⟨(((Vd.t e3).t e4).t e5),?_⟩
     refine WX.alt ?_ ?_
     ·refine cx rfl rfl (bH ((((hI11.m Xd).m e3).m e4).m e5) hpl) ?_
      rintro v6 w6 ⟨⟨N3,nN3,hO3⟩,e6⟩
      obtain⟨q3,c3,hq3,_,_⟩:=hO3.form
      subst hq3
      have ns6:=e6.s
      refine⟨((((Vd.t e3).t e4).t e5).t e6),?_⟩
      refine Hy rfl (az (cs:=[_,_,_,_,_,_,_,_,_,_,_,_]) Fo.h rfl rfl) ?_
      replace he:=((((((he.t e1).t e2).t Xd).t e3).t e4).t e5).t e6
      have hs7:=he.s
      replace hb1:=((((hb1.m Xd).m e3).m e4).m e5).m e6
      have hx7b1:=hb1.lt
      refine ax rfl ?_
      rintro _ w7 ⟨rfl,hb7,e7⟩
      have nx7:=hb7.lt
      have ns7:=e7.s
      refine⟨(((((Vd.t e3).t e4).t e5).t e6).t e7),?_⟩
      refine WX.l0 rfl (bj rfl rfl hb7) ?_
      rintro _ w8 ⟨hb7,e8,hz8⟩
      have ns8:=e8.s
      refine⟨((((((Vd.t e3).t e4).t e5).t e6).t e7).t e8),?_⟩
      refine WX.nil<|uA 6 rfl ?_
      replace hX:=(((((hX.m Xd).m e3).m e4).m e5).m e6).m (e7.t e8)
      refine ld rfl hX rfl<|Hq (fY Fb.h rfl rfl)<|uD 3 rfl<|uA 2 rfl<|la rfl hb7<|uC 1 rfl ?_
      replace hb1:=hb1.m (e7.t e8)
      refine Ho rfl rfl hb1 fun w9 hb1 e9 hz9=>?_
      have ns9:=e9.s
      refine uC 2 rfl<|WC.ret ?_
      replace hZS:=((((((hZS.m Xd).m e3).m e4).m e5).m e6).m (e7.t e8)).m e9
      replace hZD:=((((hZD.m e4).m e5).m e6).m (e7.t e8)).m e9
      replace hO2:=(((hO2.m e5).m e6).m (e7.t e8)).m e9
      replace hZF:=((hZF.m e6).m (e7.t e8)).m e9
      replace hO3:=(hO3.m (e7.t e8)).m e9
      replace he:=(he.t (e7.t e8)).t e9
      exact cw rfl hb1 fP rfl ⟨⟨hdl,did,tag,fmt,stl,more,[],l',res,abo,bat,pl⟩,_,rfl,⟨_,_,_,_,_,_,rfl,(hZD.lowW (B:=fun b=>w.heap.size≤b) fun b _ h=>by omega),(hO2.toB (A:=fun b=>w.heap.size≤b) (fun b hb _=>by omega)),(hZF.lowW (B:=fun b=>w.heap.size≤b) fun b _ h=>by omega),dT.nil,(hZS.lowW (B:=fun b=>w.heap.size≤b) fun b _ h=>by omega),(hO3.toB (A:=fun b=>w.heap.size≤b) (fun b hb _=>by omega))⟩,⟨rfl,rfl,rfl,rfl,rfl,rfl,rfl,qSB,rfl,rfl,rfl⟩,rfl,⟨o1,o2,o3,o4,⟨ql,qok⟩⟩,he.k fun k hk _=>hk⟩
     ·replace he:=(((((he.t e1).t e2).t Xd).t e3).t e4).t e5
      have hs6:=he.s
      replace hb1:=(((hb1.m Xd).m e3).m e4).m e5
      have hx6b1:=hb1.lt
      refine ax rfl ?_
      rintro _ w6 ⟨rfl,hb6,e6⟩
      have nx6:=hb6.lt
      have ns6:=e6.s
      refine⟨((((Vd.t e3).t e4).t e5).t e6),?_⟩
      refine cx rfl rfl (bH (((((hI11.m Xd).m e3).m e4).m e5).m e6) hpl) ?_
      rintro v7 w7 ⟨⟨N3,nN3,hO3⟩,e7⟩
      obtain⟨q3,c3,hq3,_,_⟩:=hO3.form
      subst hq3
      have ns7:=e7.s
      refine⟨(((((Vd.t e3).t e4).t e5).t e6).t e7),?_⟩
      refine Hy rfl (az (cs:=[_,_,_,_,_,_,_,_,_,_,_,_]) Fo.h rfl rfl) ?_
      replace hb6:=hb6.m e7
      refine WX.l0 rfl (bj rfl rfl hb6) ?_
      rintro _ w8 ⟨hb6,e8,hz8⟩
      have ns8:=e8.s
      refine⟨((((((Vd.t e3).t e4).t e5).t e6).t e7).t e8),?_⟩
      refine WX.nil<|uA 6 rfl ?_
      replace hX:=((((hX.m Xd).m e3).m e4).m e5).m ((e6.t e7).t e8)
      refine ld rfl hX rfl<|Hq (fY Fb.h rfl rfl)<|uD 3 rfl<|uA 2 rfl<|la rfl hb6<|uC 1 rfl ?_
      replace hb1:=hb1.m ((e6.t e7).t e8)
      refine Ho rfl rfl hb1 fun w9 hb1 e9 hz9=>?_
      have ns9:=e9.s
      refine uC 2 rfl<|WC.ret ?_
      replace hZS:=(((((hZS.m Xd).m e3).m e4).m e5).m ((e6.t e7).t e8)).m e9
      replace hZD:=(((hZD.m e4).m e5).m ((e6.t e7).t e8)).m e9
      replace hO2:=((hO2.m e5).m ((e6.t e7).t e8)).m e9
      replace hZF:=(hZF.m ((e6.t e7).t e8)).m e9
      replace hO3:=(hO3.m e8).m e9
      replace he:=(he.t ((e6.t e7).t e8)).t e9
      exact cw rfl hb1 fP rfl ⟨⟨hdl,did,tag,fmt,stl,more,[],l',res,abo,bat,pl⟩,_,rfl,⟨_,_,_,_,_,_,rfl,(hZD.lowW (B:=fun b=>w.heap.size≤b) fun b _ h=>by omega),(hO2.toB (A:=fun b=>w.heap.size≤b) (fun b hb _=>by omega)),(hZF.lowW (B:=fun b=>w.heap.size≤b) fun b _ h=>by omega),dT.nil,(hZS.lowW (B:=fun b=>w.heap.size≤b) fun b _ h=>by omega),(hO3.toB (A:=fun b=>w.heap.size≤b) (fun b hb _=>by omega))⟩,⟨rfl,rfl,rfl,rfl,rfl,rfl,rfl,qSB,rfl,rfl,rfl⟩,rfl,⟨o1,o2,o3,o4,⟨ql,qok⟩⟩,he.k fun k hk _=>hk⟩
    ·replace he:=((((he.t e1).t e2).t Xd).t e3).t e4
     have hs5:=he.s
     replace hb1:=((hb1.m Xd).m e3).m e4
     have hx5b1:=hb1.lt
     refine ax rfl ?_
     rintro _ w5 ⟨rfl,hb5,e5⟩
     have nx5:=hb5.lt
     have ns5:=e5.s
     refine⟨(((Vd.t e3).t e4).t e5),?_⟩
     refine cx rfl rfl (cP ((((hP3.m Xd).m e3).m e4).m e5)) ?_
     rintro v6 w6 ⟨hZF,e6⟩
     obtain⟨pf,cf,hfv,_⟩:=hZF.ex
     subst hfv
     have ns6:=e6.s
     refine⟨((((Vd.t e3).t e4).t e5).t e6),?_⟩
     refine cx rfl rfl (bH (((((hI11.m Xd).m e3).m e4).m e5).m e6) hpl) ?_
     rintro v7 w7 ⟨⟨N3,nN3,hO3⟩,e7⟩
     obtain⟨q3,c3,hq3,_,_⟩:=hO3.form
     subst hq3
     have ns7:=e7.s
     refine⟨(((((Vd.t e3).t e4).t e5).t e6).t e7),?_⟩
     refine Hy rfl (az (cs:=[_,_,_,_,_,_,_,_,_,_,_,_]) Fo.h rfl rfl) ?_
     replace hb5:=(hb5.m e6).m e7
     refine WX.l0 rfl (bj rfl rfl hb5) ?_
     rintro _ w8 ⟨hb5,e8,hz8⟩
     have ns8:=e8.s
     refine⟨((((((Vd.t e3).t e4).t e5).t e6).t e7).t e8),?_⟩
     refine WX.nil<|uA 6 rfl ?_
     replace hX:=(((hX.m Xd).m e3).m e4).m (((e5.t e6).t e7).t e8)
     refine ld rfl hX rfl<|Hq (fY Fb.h rfl rfl)<|uD 3 rfl<|uA 2 rfl<|la rfl hb5<|uC 1 rfl ?_
     replace hb1:=hb1.m (((e5.t e6).t e7).t e8)
     refine Ho rfl rfl hb1 fun w9 hb1 e9 hz9=>?_
     have ns9:=e9.s
     refine uC 2 rfl<|WC.ret ?_
     replace hZS:=((((hZS.m Xd).m e3).m e4).m (((e5.t e6).t e7).t e8)).m e9
     replace hZD:=((hZD.m e4).m (((e5.t e6).t e7).t e8)).m e9
     replace hO2:=(hO2.m (((e5.t e6).t e7).t e8)).m e9
     replace hZF:=((hZF.m e7).m e8).m e9
     replace hO3:=(hO3.m e8).m e9
     replace he:=(he.t (((e5.t e6).t e7).t e8)).t e9
     exact cw rfl hb1 fP rfl ⟨⟨hdl,did,tag,fmt,stl,more,[],l',res,abo,bat,pl⟩,_,rfl,⟨_,_,_,_,_,_,rfl,(hZD.lowW (B:=fun b=>w.heap.size≤b) fun b _ h=>by omega),(hO2.toB (A:=fun b=>w.heap.size≤b) (fun b hb _=>by omega)),(hZF.lowW (B:=fun b=>w.heap.size≤b) fun b _ h=>by omega),dT.nil,(hZS.lowW (B:=fun b=>w.heap.size≤b) fun b _ h=>by omega),(hO3.toB (A:=fun b=>w.heap.size≤b) (fun b hb _=>by omega))⟩,⟨rfl,rfl,rfl,rfl,rfl,rfl,rfl,qSB,rfl,rfl,rfl⟩,rfl,⟨o1,o2,o3,o4,⟨ql,qok⟩⟩,he.k fun k hk _=>hk⟩
   ·replace he:=(((he.t e1).t e2).t Xd).t e3
    have hs4:=he.s
    replace hb1:=(hb1.m Xd).m e3
    have hx4b1:=hb1.lt
    refine ax rfl ?_
    rintro _ w4 ⟨rfl,hb4,e4⟩
    have nx4:=hb4.lt
    have ns4:=e4.s
    refine⟨((Vd.t e3).t e4),?_⟩
    refine cx rfl rfl (bH (((hI2.m Xd).m e3).m e4) htl) ?_
    rintro v5 w5 ⟨⟨N2,nN2,hO2⟩,e5⟩
    obtain⟨q2,c2,hq2,_,_⟩:=hO2.form
    subst hq2
    have ns5:=e5.s
    refine⟨(((Vd.t e3).t e4).t e5),?_⟩
    refine cx rfl rfl (cP ((((hP3.m Xd).m e3).m e4).m e5)) ?_
    rintro v6 w6 ⟨hZF,e6⟩
    obtain⟨pf,cf,hfv,_⟩:=hZF.ex
    subst hfv
    have ns6:=e6.s
    refine⟨((((Vd.t e3).t e4).t e5).t e6),?_⟩
    refine cx rfl rfl (bH (((((hI11.m Xd).m e3).m e4).m e5).m e6) hpl) ?_
    rintro v7 w7 ⟨⟨N3,nN3,hO3⟩,e7⟩
    obtain⟨q3,c3,hq3,_,_⟩:=hO3.form
    subst hq3
    have ns7:=e7.s
    refine⟨(((((Vd.t e3).t e4).t e5).t e6).t e7),?_⟩
    refine Hy rfl (az (cs:=[_,_,_,_,_,_,_,_,_,_,_,_]) Fo.h rfl rfl) ?_
    replace hb4:=((hb4.m e5).m e6).m e7
    refine WX.l0 rfl (bj rfl rfl hb4) ?_
    rintro _ w8 ⟨hb4,e8,hz8⟩
    have ns8:=e8.s
    refine⟨((((((Vd.t e3).t e4).t e5).t e6).t e7).t e8),?_⟩
    refine WX.nil<|uA 6 rfl ?_
    replace hX:=((hX.m Xd).m e3).m ((((e4.t e5).t e6).t e7).t e8)
    refine ld rfl hX rfl<|Hq (fY Fb.h rfl rfl)<|uD 3 rfl<|uA 2 rfl<|la rfl hb4<|uC 1 rfl ?_
    replace hb1:=hb1.m ((((e4.t e5).t e6).t e7).t e8)
    refine Ho rfl rfl hb1 fun w9 hb1 e9 hz9=>?_
    have ns9:=e9.s
    refine uC 2 rfl<|WC.ret ?_
    replace hZS:=(((hZS.m Xd).m e3).m ((((e4.t e5).t e6).t e7).t e8)).m e9
    replace hZD:=(hZD.m ((((e4.t e5).t e6).t e7).t e8)).m e9
    replace hO2:=(((hO2.m e6).m e7).m e8).m e9
    replace hZF:=((hZF.m e7).m e8).m e9
    replace hO3:=(hO3.m e8).m e9
    replace he:=(he.t ((((e4.t e5).t e6).t e7).t e8)).t e9
    exact cw rfl hb1 fP rfl ⟨⟨hdl,did,tag,fmt,stl,more,[],l',res,abo,bat,pl⟩,_,rfl,⟨_,_,_,_,_,_,rfl,(hZD.lowW (B:=fun b=>w.heap.size≤b) fun b _ h=>by omega),(hO2.toB (A:=fun b=>w.heap.size≤b) (fun b hb _=>by omega)),(hZF.lowW (B:=fun b=>w.heap.size≤b) fun b _ h=>by omega),dT.nil,(hZS.lowW (B:=fun b=>w.heap.size≤b) fun b _ h=>by omega),(hO3.toB (A:=fun b=>w.heap.size≤b) (fun b hb _=>by omega))⟩,⟨rfl,rfl,rfl,rfl,rfl,rfl,rfl,qSB,rfl,rfl,rfl⟩,rfl,⟨o1,o2,o3,o4,⟨ql,qok⟩⟩,he.k fun k hk _=>hk⟩
  ·replace he:=((he.t e1).t e2).t Xd
   have hs3:=he.s
   replace hb1:=hb1.m Xd
   have hx3b1:=hb1.lt
   refine ax rfl ?_
   rintro _ w3 ⟨rfl,hb3,e3⟩
   have nx3:=hb3.lt
   have ns3:=e3.s
   refine⟨(Vd.t e3),?_⟩
   refine cx rfl rfl (cP ((hP1.m Xd).m e3)) ?_
   rintro v4 w4 ⟨hZD,e4⟩
   obtain⟨pd,cd,hdv,_⟩:=hZD.ex
   subst hdv
   have ns4:=e4.s
   refine⟨((Vd.t e3).t e4),?_⟩
   refine cx rfl rfl (bH (((hI2.m Xd).m e3).m e4) htl) ?_
   rintro v5 w5 ⟨⟨N2,nN2,hO2⟩,e5⟩
   obtain⟨q2,c2,hq2,_,_⟩:=hO2.form
   subst hq2
   have ns5:=e5.s
   refine⟨(((Vd.t e3).t e4).t e5),?_⟩
   refine cx rfl rfl (cP ((((hP3.m Xd).m e3).m e4).m e5)) ?_
   rintro v6 w6 ⟨hZF,e6⟩
   obtain⟨pf,cf,hfv,_⟩:=hZF.ex
   subst hfv
   have ns6:=e6.s
   refine⟨((((Vd.t e3).t e4).t e5).t e6),?_⟩
   refine cx rfl rfl (bH (((((hI11.m Xd).m e3).m e4).m e5).m e6) hpl) ?_
   rintro v7 w7 ⟨⟨N3,nN3,hO3⟩,e7⟩
   obtain⟨q3,c3,hq3,_,_⟩:=hO3.form
   subst hq3
   have ns7:=e7.s
   refine⟨(((((Vd.t e3).t e4).t e5).t e6).t e7),?_⟩
   refine Hy rfl (az (cs:=[_,_,_,_,_,_,_,_,_,_,_,_]) Fo.h rfl rfl) ?_
   replace hb3:=(((hb3.m e4).m e5).m e6).m e7
   refine WX.l0 rfl (bj rfl rfl hb3) ?_
   rintro _ w8 ⟨hb3,e8,hz8⟩
   have ns8:=e8.s
   refine⟨((((((Vd.t e3).t e4).t e5).t e6).t e7).t e8),?_⟩
   refine WX.nil<|uA 6 rfl ?_
   replace hX:=(hX.m Xd).m (((((e3.t e4).t e5).t e6).t e7).t e8)
   refine ld rfl hX rfl<|Hq (fY Fb.h rfl rfl)<|uD 3 rfl<|uA 2 rfl<|la rfl hb3<|uC 1 rfl ?_
   replace hb1:=hb1.m (((((e3.t e4).t e5).t e6).t e7).t e8)
   refine Ho rfl rfl hb1 fun w9 hb1 e9 hz9=>?_
   have ns9:=e9.s
   refine uC 2 rfl<|WC.ret ?_
   replace hZS:=((hZS.m Xd).m (((((e3.t e4).t e5).t e6).t e7).t e8)).m e9
   replace hZD:=((((hZD.m e5).m e6).m e7).m e8).m e9
   replace hO2:=(((hO2.m e6).m e7).m e8).m e9
   replace hZF:=((hZF.m e7).m e8).m e9
   replace hO3:=(hO3.m e8).m e9
   replace he:=(he.t (((((e3.t e4).t e5).t e6).t e7).t e8)).t e9
   exact cw rfl hb1 fP rfl ⟨⟨hdl,did,tag,fmt,stl,more,[],l',res,abo,bat,pl⟩,_,rfl,⟨_,_,_,_,_,_,rfl,(hZD.lowW (B:=fun b=>w.heap.size≤b) fun b _ h=>by omega),(hO2.toB (A:=fun b=>w.heap.size≤b) (fun b hb _=>by omega)),(hZF.lowW (B:=fun b=>w.heap.size≤b) fun b _ h=>by omega),dT.nil,(hZS.lowW (B:=fun b=>w.heap.size≤b) fun b _ h=>by omega),(hO3.toB (A:=fun b=>w.heap.size≤b) (fun b hb _=>by omega))⟩,⟨rfl,rfl,rfl,rfl,rfl,rfl,rfl,qSB,rfl,rfl,rfl⟩,rfl,⟨o1,o2,o3,o4,⟨ql,qok⟩⟩,he.k fun k hk _=>hk⟩
 ·have:=hB.lt
  refine co Tryz.func43 ?_
  have he:=Hi w
  refine uA 2 rfl ?_
  have hs1:=he.s
  refine Ha fun w1 hb1 e1=>?_
  have nx1:=hb1.lt
  have ns1:=e1.s
  refine uD 7 rfl ?_
  replace hX:=hX.m e1
  refine ld rfl hX rfl ?_
  replace hUT:=hUT.m e1
  refine cl rfl (nH o5.2 hA hUT (hS7.ext e1)) ?_
  rintro v2 w2 ⟨l',sv,rfl,hZS,qSB,qok,ql,e2⟩
  obtain⟨ps,cs,hsv,_⟩:=hZS.ex
  subst hsv
  have ns2:=e2.s
  refine uC 6 rfl ?_
  replace hX:=hX.m e2
  replace hUT:=hUT.m e2
  replace hP1:=(hP1.m e1).m e2
  replace hP3:=(hP3.m e1).m e2
  replace hI2:=(hI2.m e1).m e2
  replace hI11:=(hI11.m e1).m e2
  replace hB:=(hB.m e1).m e2
  replace hb1:=hb1.m e2
  refine WC.seq<|WC.regionT (.q 0 (.q 1 (.q 2 (.q 3 (.q 4 (.q 5 (.q 6 (.q 7 (.q 9 (.q 10 (.q 11 (.q 12 (.q 14 (.q 15 (.q 16 (.q 17 (.q 19 (.q 20 (.q 21 (.q 22 (.q 23 (.q 24 (.q 25 (.q 26 (.q 27 (.q 28 (.q 29 (.q 30 (.q 31 (.q 32 (.q 33 (.q 34 (.q 35 (.q 36 (.q 37 (.q 38 (.q 39 (.q 40 (.q 41 (.q 42 (.q 43 (.alt (.l 8 (.alt (.l 13 (.alt (.l 18 (.alt (.l 44 (.q 45 (.l 46 (.l 47 (.nil))))) (.l 46 (.l 44 (.q 45 (.l 47 (.nil))))))) (.l 46 (.l 18 (.l 44 (.q 45 (.l 47 (.nil)))))))) (.l 46 (.l 13 (.l 18 (.l 44 (.q 45 (.l 47 (.nil))))))))) (.l 46 (.l 8 (.l 13 (.l 18 (.l 44 (.q 45 (.l 47 (.nil)))))))))))))))))))))))))))))))))))))))))))))))))) (ay _) mixed (by kernel_rfl) Xd ?_
  have nd1w2:w2.drew.heap.size=w2.heap.size:=rfl
  refine Hy rfl (aq rfl)<|Hy rfl (bE rfl)<|Hy rfl (aa rfl Fo.h)<|Hx rfl (fun _ hS=>ao Fb.h rfl hS (hX.get rfl))<|Hy rfl (aq rfl)<|Hy rfl (bE rfl)<|Hy rfl (aa rfl Fo.h)<|Hx rfl (fun _ hS=>ao Fb.h rfl hS (hX.get rfl))<|Hy rfl (aq rfl)<|Hy rfl (bE rfl)<|Hy rfl (aa rfl Fo.h)<|Hx rfl (fun _ hS=>ao Fb.h rfl hS (hX.get rfl))<|Hy rfl (aq rfl)<|Hy rfl (bE rfl)<|Hy rfl (aa rfl Fo.h)<|Hx rfl (fun _ hS=>ao Fb.h rfl hS (hX.get rfl))<|Hy rfl (aq rfl)<|Hy rfl (bE rfl)<|Hy rfl (aa rfl Fo.h)<|Hx rfl (fun _ hS=>ao Fb.h rfl hS (hX.get rfl))<|Hy rfl (aq rfl)<|Hy rfl (bE rfl)<|Hy rfl (aa rfl Fo.h)<|Hx rfl (fun _ hS=>ao Fb.h rfl hS (hX.get rfl))<|Hy rfl (aq rfl)<|Hy rfl (aq rfl)<|Hy rfl (bE rfl)<|Hy rfl (aa rfl Fo.h)<|Hx rfl (fun _ hS=>ao Fb.h rfl hS (hX.get rfl))<|Hy rfl (aq rfl)<|Hy rfl (bE rfl)<|Hy rfl (aa rfl Fo.h)<|Hx rfl (fun _ hS=>ao Fb.h rfl hS (hX.get rfl))<|Hy rfl (aq rfl)<|Hy rfl (bE rfl)<|Hy rfl (aa rfl Fo.h)<|Hx rfl (fun _ hS=>ao Fb.h rfl hS (hX.get rfl))<|Hy rfl (aq rfl)<|Hy rfl (bE rfl)<|Hy rfl (aa rfl Fo.h)<|Hx rfl (fun _ hS=>ao Fb.h rfl hS (hX.get rfl))<|WX.alt ?_ ?_
  ·refine cx rfl rfl (cP (hP1.m Xd)) ?_
   rintro v3 w3 ⟨hZD,e3⟩
   obtain⟨pd,cd,hdv,_⟩:=hZD.ex
   subst hdv
   have ns3:=e3.s
   refine⟨(Vd.t e3),?_⟩
   refine WX.alt ?_ ?_
   ·refine cx rfl rfl (bH ((hI2.m Xd).m e3) htl) ?_
    rintro v4 w4 ⟨⟨N2,nN2,hO2⟩,e4⟩
    obtain⟨q2,c2,hq2,_,_⟩:=hO2.form
    subst hq2
    have ns4:=e4.s
    refine⟨((Vd.t e3).t e4),?_⟩
    refine WX.alt ?_ ?_
    ·refine cx rfl rfl (cP (((hP3.m Xd).m e3).m e4)) ?_
     rintro v5 w5 ⟨hZF,e5⟩
     obtain⟨pf,cf,hfv,_⟩:=hZF.ex
     subst hfv
     have ns5:=e5.s
     refine⟨(((Vd.t e3).t e4).t e5),?_⟩
     refine WX.alt ?_ ?_
     ·refine cx rfl rfl (bH ((((hI11.m Xd).m e3).m e4).m e5) hpl) ?_
      rintro v6 w6 ⟨⟨N3,nN3,hO3⟩,e6⟩
      obtain⟨q3,c3,hq3,_,_⟩:=hO3.form
      subst hq3
      have ns6:=e6.s
      refine⟨((((Vd.t e3).t e4).t e5).t e6),?_⟩
      refine Hy rfl (az (cs:=[_,_,_,_,_,_,_,_,_,_,_,_]) Fo.h rfl rfl) ?_
      replace he:=((((((he.t e1).t e2).t Xd).t e3).t e4).t e5).t e6
      have hs7:=he.s
      replace hb1:=((((hb1.m Xd).m e3).m e4).m e5).m e6
      have hx7b1:=hb1.lt
      refine ax rfl ?_
      rintro _ w7 ⟨rfl,hb7,e7⟩
      have nx7:=hb7.lt
      have ns7:=e7.s
      refine⟨(((((Vd.t e3).t e4).t e5).t e6).t e7),?_⟩
      refine WX.l0 rfl (bj rfl rfl hb7) ?_
      rintro _ w8 ⟨hb7,e8,hz8⟩
      have ns8:=e8.s
      refine⟨((((((Vd.t e3).t e4).t e5).t e6).t e7).t e8),?_⟩
      refine WX.nil<|uA 6 rfl ?_
      replace hX:=(((((hX.m Xd).m e3).m e4).m e5).m e6).m (e7.t e8)
      refine ld rfl hX rfl<|Hq (fZ Fb.h rfl rfl)<|uD 6 rfl<|ld rfl hX rfl<|uC 1 rfl ?_
      replace hB:=(((((hB.m Xd).m e3).m e4).m e5).m e6).m (e7.t e8)
      refine ld rfl hB rfl ?_
      replace he:=he.t (e7.t e8)
      have hs9:=he.s
      replace hb1:=hb1.m (e7.t e8)
      have hx9b1:=hb1.lt
      have:=hb7.lt
      refine WL.l rfl (ll [_]) ?_
      rintro _ w9 ⟨rfl,hb9,e9⟩
      have ns9:=e9.s
      refine uC 1 rfl ?_
      replace hb7:=hb7.m e9
      refine Hp rfl rfl hb7 fun w10 hb7 e10 hz10=>?_
      have ns10:=e10.s
      refine uD 3 rfl<|la rfl hb7<|uC 1 rfl ?_
      replace hb1:=(hb1.m e9).m e10
      refine Ho rfl rfl hb1 fun w11 hb1 e11 hz11=>?_
      have ns11:=e11.s
      refine uC 2 rfl<|WC.ret ?_
      replace hZS:=((((((hZS.m Xd).m e3).m e4).m e5).m e6).m (((e7.t e8).t e9).t e10)).m e11
      replace hZD:=((((hZD.m e4).m e5).m e6).m (((e7.t e8).t e9).t e10)).m e11
      replace hO2:=(((hO2.m e5).m e6).m (((e7.t e8).t e9).t e10)).m e11
      replace hZF:=((hZF.m e6).m (((e7.t e8).t e9).t e10)).m e11
      replace hO3:=(hO3.m (((e7.t e8).t e9).t e10)).m e11
      replace hb9:=(hb9.m e10).m e11
      replace he:=((he.t e9).t e10).t e11
      exact cw rfl hb1 fP rfl ⟨⟨hdl,did,tag,fmt,stl,more,[n],l',res,abo,bat,pl⟩,_,rfl,⟨_,_,_,_,_,_,rfl,(hZD.lowW (B:=fun b=>w.heap.size≤b) fun b _ h=>by omega),(hO2.toB (A:=fun b=>w.heap.size≤b) (fun b hb _=>by omega)),(hZF.lowW (B:=fun b=>w.heap.size≤b) fun b _ h=>by omega),dT.at1 hb9 (by omega),(hZS.lowW (B:=fun b=>w.heap.size≤b) fun b _ h=>by omega),(hO3.toB (A:=fun b=>w.heap.size≤b) (fun b hb _=>by omega))⟩,⟨rfl,rfl,rfl,rfl,rfl,rfl,rfl,qSB,rfl,rfl,rfl⟩,rfl,⟨o1,o2,o3,o4,⟨ql,qok⟩⟩,he.k fun k hk _=>hk⟩
     ·replace he:=(((((he.t e1).t e2).t Xd).t e3).t e4).t e5
      have hs6:=he.s
      replace hb1:=(((hb1.m Xd).m e3).m e4).m e5
      have hx6b1:=hb1.lt
      refine ax rfl ?_
      rintro _ w6 ⟨rfl,hb6,e6⟩
      have nx6:=hb6.lt
      have ns6:=e6.s
      refine⟨((((Vd.t e3).t e4).t e5).t e6),?_⟩
      refine cx rfl rfl (bH (((((hI11.m Xd).m e3).m e4).m e5).m e6) hpl) ?_
      rintro v7 w7 ⟨⟨N3,nN3,hO3⟩,e7⟩
      obtain⟨q3,c3,hq3,_,_⟩:=hO3.form
      subst hq3
      have ns7:=e7.s
      refine⟨(((((Vd.t e3).t e4).t e5).t e6).t e7),?_⟩
      refine Hy rfl (az (cs:=[_,_,_,_,_,_,_,_,_,_,_,_]) Fo.h rfl rfl) ?_
      replace hb6:=hb6.m e7
      refine WX.l0 rfl (bj rfl rfl hb6) ?_
      rintro _ w8 ⟨hb6,e8,hz8⟩
      have ns8:=e8.s
      refine⟨((((((Vd.t e3).t e4).t e5).t e6).t e7).t e8),?_⟩
      refine WX.nil<|uA 6 rfl ?_
      replace hX:=((((hX.m Xd).m e3).m e4).m e5).m ((e6.t e7).t e8)
      refine ld rfl hX rfl<|Hq (fZ Fb.h rfl rfl)<|uD 6 rfl<|ld rfl hX rfl<|uC 1 rfl ?_
      replace hB:=((((hB.m Xd).m e3).m e4).m e5).m ((e6.t e7).t e8)
      refine ld rfl hB rfl ?_
      replace he:=he.t ((e6.t e7).t e8)
      have hs9:=he.s
      replace hb1:=hb1.m ((e6.t e7).t e8)
      have hx9b1:=hb1.lt
      have:=hb6.lt
      refine WL.l rfl (ll [_]) ?_
      rintro _ w9 ⟨rfl,hb9,e9⟩
      have ns9:=e9.s
      refine uC 1 rfl ?_
      replace hb6:=hb6.m e9
      refine Hp rfl rfl hb6 fun w10 hb6 e10 hz10=>?_
      have ns10:=e10.s
      refine uD 3 rfl<|la rfl hb6<|uC 1 rfl ?_
      replace hb1:=(hb1.m e9).m e10
      refine Ho rfl rfl hb1 fun w11 hb1 e11 hz11=>?_
      have ns11:=e11.s
      refine uC 2 rfl<|WC.ret ?_
      replace hZS:=(((((hZS.m Xd).m e3).m e4).m e5).m ((((e6.t e7).t e8).t e9).t e10)).m e11
      replace hZD:=(((hZD.m e4).m e5).m ((((e6.t e7).t e8).t e9).t e10)).m e11
      replace hO2:=((hO2.m e5).m ((((e6.t e7).t e8).t e9).t e10)).m e11
      replace hZF:=(hZF.m ((((e6.t e7).t e8).t e9).t e10)).m e11
      replace hO3:=(((hO3.m e8).m e9).m e10).m e11
      replace hb9:=(hb9.m e10).m e11
      replace he:=((he.t e9).t e10).t e11
      exact cw rfl hb1 fP rfl ⟨⟨hdl,did,tag,fmt,stl,more,[n],l',res,abo,bat,pl⟩,_,rfl,⟨_,_,_,_,_,_,rfl,(hZD.lowW (B:=fun b=>w.heap.size≤b) fun b _ h=>by omega),(hO2.toB (A:=fun b=>w.heap.size≤b) (fun b hb _=>by omega)),(hZF.lowW (B:=fun b=>w.heap.size≤b) fun b _ h=>by omega),dT.at1 hb9 (by omega),(hZS.lowW (B:=fun b=>w.heap.size≤b) fun b _ h=>by omega),(hO3.toB (A:=fun b=>w.heap.size≤b) (fun b hb _=>by omega))⟩,⟨rfl,rfl,rfl,rfl,rfl,rfl,rfl,qSB,rfl,rfl,rfl⟩,rfl,⟨o1,o2,o3,o4,⟨ql,qok⟩⟩,he.k fun k hk _=>hk⟩
    ·replace he:=((((he.t e1).t e2).t Xd).t e3).t e4
     have hs5:=he.s
     replace hb1:=((hb1.m Xd).m e3).m e4
     have hx5b1:=hb1.lt
     refine ax rfl ?_
     rintro _ w5 ⟨rfl,hb5,e5⟩
     have nx5:=hb5.lt
     have ns5:=e5.s
     refine⟨(((Vd.t e3).t e4).t e5),?_⟩
     refine cx rfl rfl (cP ((((hP3.m Xd).m e3).m e4).m e5)) ?_
     rintro v6 w6 ⟨hZF,e6⟩
     obtain⟨pf,cf,hfv,_⟩:=hZF.ex
     subst hfv
     have ns6:=e6.s
     refine⟨((((Vd.t e3).t e4).t e5).t e6),?_⟩
     refine cx rfl rfl (bH (((((hI11.m Xd).m e3).m e4).m e5).m e6) hpl) ?_
     rintro v7 w7 ⟨⟨N3,nN3,hO3⟩,e7⟩
     obtain⟨q3,c3,hq3,_,_⟩:=hO3.form
     subst hq3
     have ns7:=e7.s
     refine⟨(((((Vd.t e3).t e4).t e5).t e6).t e7),?_⟩
     refine Hy rfl (az (cs:=[_,_,_,_,_,_,_,_,_,_,_,_]) Fo.h rfl rfl) ?_
     replace hb5:=(hb5.m e6).m e7
     refine WX.l0 rfl (bj rfl rfl hb5) ?_
     rintro _ w8 ⟨hb5,e8,hz8⟩
     have ns8:=e8.s
     refine⟨((((((Vd.t e3).t e4).t e5).t e6).t e7).t e8),?_⟩
     refine WX.nil<|uA 6 rfl ?_
     replace hX:=(((hX.m Xd).m e3).m e4).m (((e5.t e6).t e7).t e8)
     refine ld rfl hX rfl<|Hq (fZ Fb.h rfl rfl)<|uD 6 rfl<|ld rfl hX rfl<|uC 1 rfl ?_
     replace hB:=(((hB.m Xd).m e3).m e4).m (((e5.t e6).t e7).t e8)
     refine ld rfl hB rfl ?_
     replace he:=he.t (((e5.t e6).t e7).t e8)
     have hs9:=he.s
     replace hb1:=hb1.m (((e5.t e6).t e7).t e8)
     have hx9b1:=hb1.lt
     have:=hb5.lt
     refine WL.l rfl (ll [_]) ?_
     rintro _ w9 ⟨rfl,hb9,e9⟩
     have ns9:=e9.s
     refine uC 1 rfl ?_
     replace hb5:=hb5.m e9
     refine Hp rfl rfl hb5 fun w10 hb5 e10 hz10=>?_
     have ns10:=e10.s
     refine uD 3 rfl<|la rfl hb5<|uC 1 rfl ?_
     replace hb1:=(hb1.m e9).m e10
     refine Ho rfl rfl hb1 fun w11 hb1 e11 hz11=>?_
     have ns11:=e11.s
     refine uC 2 rfl<|WC.ret ?_
     replace hZS:=((((hZS.m Xd).m e3).m e4).m (((((e5.t e6).t e7).t e8).t e9).t e10)).m e11
     replace hZD:=((hZD.m e4).m (((((e5.t e6).t e7).t e8).t e9).t e10)).m e11
     replace hO2:=(hO2.m (((((e5.t e6).t e7).t e8).t e9).t e10)).m e11
     replace hZF:=((((hZF.m e7).m e8).m e9).m e10).m e11
     replace hO3:=(((hO3.m e8).m e9).m e10).m e11
     replace hb9:=(hb9.m e10).m e11
     replace he:=((he.t e9).t e10).t e11
     exact cw rfl hb1 fP rfl ⟨⟨hdl,did,tag,fmt,stl,more,[n],l',res,abo,bat,pl⟩,_,rfl,⟨_,_,_,_,_,_,rfl,(hZD.lowW (B:=fun b=>w.heap.size≤b) fun b _ h=>by omega),(hO2.toB (A:=fun b=>w.heap.size≤b) (fun b hb _=>by omega)),(hZF.lowW (B:=fun b=>w.heap.size≤b) fun b _ h=>by omega),dT.at1 hb9 (by omega),(hZS.lowW (B:=fun b=>w.heap.size≤b) fun b _ h=>by omega),(hO3.toB (A:=fun b=>w.heap.size≤b) (fun b hb _=>by omega))⟩,⟨rfl,rfl,rfl,rfl,rfl,rfl,rfl,qSB,rfl,rfl,rfl⟩,rfl,⟨o1,o2,o3,o4,⟨ql,qok⟩⟩,he.k fun k hk _=>hk⟩
   ·replace he:=(((he.t e1).t e2).t Xd).t e3
    have hs4:=he.s
    replace hb1:=(hb1.m Xd).m e3
    have hx4b1:=hb1.lt
    refine ax rfl ?_
    rintro _ w4 ⟨rfl,hb4,e4⟩
    have nx4:=hb4.lt
    have ns4:=e4.s
    refine⟨((Vd.t e3).t e4),?_⟩
    refine cx rfl rfl (bH (((hI2.m Xd).m e3).m e4) htl) ?_
    rintro v5 w5 ⟨⟨N2,nN2,hO2⟩,e5⟩
    obtain⟨q2,c2,hq2,_,_⟩:=hO2.form
    subst hq2
    have ns5:=e5.s
    refine⟨(((Vd.t e3).t e4).t e5),?_⟩
    refine cx rfl rfl (cP ((((hP3.m Xd).m e3).m e4).m e5)) ?_
    rintro v6 w6 ⟨hZF,e6⟩
    obtain⟨pf,cf,hfv,_⟩:=hZF.ex
    subst hfv
    have ns6:=e6.s
    refine⟨((((Vd.t e3).t e4).t e5).t e6),?_⟩
    refine cx rfl rfl (bH (((((hI11.m Xd).m e3).m e4).m e5).m e6) hpl) ?_
    rintro v7 w7 ⟨⟨N3,nN3,hO3⟩,e7⟩
    obtain⟨q3,c3,hq3,_,_⟩:=hO3.form
    subst hq3
    have ns7:=e7.s
    refine⟨(((((Vd.t e3).t e4).t e5).t e6).t e7),?_⟩
    refine Hy rfl (az (cs:=[_,_,_,_,_,_,_,_,_,_,_,_]) Fo.h rfl rfl) ?_
    replace hb4:=((hb4.m e5).m e6).m e7
    refine WX.l0 rfl (bj rfl rfl hb4) ?_
    rintro _ w8 ⟨hb4,e8,hz8⟩
    have ns8:=e8.s
    refine⟨((((((Vd.t e3).t e4).t e5).t e6).t e7).t e8),?_⟩
    refine WX.nil<|uA 6 rfl ?_
    replace hX:=((hX.m Xd).m e3).m ((((e4.t e5).t e6).t e7).t e8)
    refine ld rfl hX rfl<|Hq (fZ Fb.h rfl rfl)<|uD 6 rfl<|ld rfl hX rfl<|uC 1 rfl ?_
    replace hB:=((hB.m Xd).m e3).m ((((e4.t e5).t e6).t e7).t e8)
    refine ld rfl hB rfl ?_
    replace he:=he.t ((((e4.t e5).t e6).t e7).t e8)
    have hs9:=he.s
    replace hb1:=hb1.m ((((e4.t e5).t e6).t e7).t e8)
    have hx9b1:=hb1.lt
    have:=hb4.lt
    refine WL.l rfl (ll [_]) ?_
    rintro _ w9 ⟨rfl,hb9,e9⟩
    have ns9:=e9.s
    refine uC 1 rfl ?_
    replace hb4:=hb4.m e9
    refine Hp rfl rfl hb4 fun w10 hb4 e10 hz10=>?_
    have ns10:=e10.s
    refine uD 3 rfl<|la rfl hb4<|uC 1 rfl ?_
    replace hb1:=(hb1.m e9).m e10
    refine Ho rfl rfl hb1 fun w11 hb1 e11 hz11=>?_
    have ns11:=e11.s
    refine uC 2 rfl<|WC.ret ?_
    replace hZS:=(((hZS.m Xd).m e3).m ((((((e4.t e5).t e6).t e7).t e8).t e9).t e10)).m e11
    replace hZD:=(hZD.m ((((((e4.t e5).t e6).t e7).t e8).t e9).t e10)).m e11
    replace hO2:=(((((hO2.m e6).m e7).m e8).m e9).m e10).m e11
    replace hZF:=((((hZF.m e7).m e8).m e9).m e10).m e11
    replace hO3:=(((hO3.m e8).m e9).m e10).m e11
    replace hb9:=(hb9.m e10).m e11
    replace he:=((he.t e9).t e10).t e11
    exact cw rfl hb1 fP rfl ⟨⟨hdl,did,tag,fmt,stl,more,[n],l',res,abo,bat,pl⟩,_,rfl,⟨_,_,_,_,_,_,rfl,(hZD.lowW (B:=fun b=>w.heap.size≤b) fun b _ h=>by omega),(hO2.toB (A:=fun b=>w.heap.size≤b) (fun b hb _=>by omega)),(hZF.lowW (B:=fun b=>w.heap.size≤b) fun b _ h=>by omega),dT.at1 hb9 (by omega),(hZS.lowW (B:=fun b=>w.heap.size≤b) fun b _ h=>by omega),(hO3.toB (A:=fun b=>w.heap.size≤b) (fun b hb _=>by omega))⟩,⟨rfl,rfl,rfl,rfl,rfl,rfl,rfl,qSB,rfl,rfl,rfl⟩,rfl,⟨o1,o2,o3,o4,⟨ql,qok⟩⟩,he.k fun k hk _=>hk⟩
  ·replace he:=((he.t e1).t e2).t Xd
   have hs3:=he.s
   replace hb1:=hb1.m Xd
   have hx3b1:=hb1.lt
   refine ax rfl ?_
   rintro _ w3 ⟨rfl,hb3,e3⟩
   have nx3:=hb3.lt
   have ns3:=e3.s
   refine⟨(Vd.t e3),?_⟩
   refine cx rfl rfl (cP ((hP1.m Xd).m e3)) ?_
   rintro v4 w4 ⟨hZD,e4⟩
   obtain⟨pd,cd,hdv,_⟩:=hZD.ex
   subst hdv
   have ns4:=e4.s
   refine⟨((Vd.t e3).t e4),?_⟩
   refine cx rfl rfl (bH (((hI2.m Xd).m e3).m e4) htl) ?_
   rintro v5 w5 ⟨⟨N2,nN2,hO2⟩,e5⟩
   obtain⟨q2,c2,hq2,_,_⟩:=hO2.form
   subst hq2
   have ns5:=e5.s
   refine⟨(((Vd.t e3).t e4).t e5),?_⟩
   refine cx rfl rfl (cP ((((hP3.m Xd).m e3).m e4).m e5)) ?_
   rintro v6 w6 ⟨hZF,e6⟩
   obtain⟨pf,cf,hfv,_⟩:=hZF.ex
   subst hfv
   have ns6:=e6.s
   refine⟨((((Vd.t e3).t e4).t e5).t e6),?_⟩
   refine cx rfl rfl (bH (((((hI11.m Xd).m e3).m e4).m e5).m e6) hpl) ?_
   rintro v7 w7 ⟨⟨N3,nN3,hO3⟩,e7⟩
   obtain⟨q3,c3,hq3,_,_⟩:=hO3.form
   subst hq3
   have ns7:=e7.s
   refine⟨(((((Vd.t e3).t e4).t e5).t e6).t e7),?_⟩
   refine Hy rfl (az (cs:=[_,_,_,_,_,_,_,_,_,_,_,_]) Fo.h rfl rfl) ?_
   replace hb3:=(((hb3.m e4).m e5).m e6).m e7
   refine WX.l0 rfl (bj rfl rfl hb3) ?_
   rintro _ w8 ⟨hb3,e8,hz8⟩
   have ns8:=e8.s
   refine⟨((((((Vd.t e3).t e4).t e5).t e6).t e7).t e8),?_⟩
   refine WX.nil<|uA 6 rfl ?_
   replace hX:=(hX.m Xd).m (((((e3.t e4).t e5).t e6).t e7).t e8)
   refine ld rfl hX rfl<|Hq (fZ Fb.h rfl rfl)<|uD 6 rfl<|ld rfl hX rfl<|uC 1 rfl ?_
   replace hB:=(hB.m Xd).m (((((e3.t e4).t e5).t e6).t e7).t e8)
   refine ld rfl hB rfl ?_
   replace he:=he.t (((((e3.t e4).t e5).t e6).t e7).t e8)
   have hs9:=he.s
   replace hb1:=hb1.m (((((e3.t e4).t e5).t e6).t e7).t e8)
   have hx9b1:=hb1.lt
   have:=hb3.lt
   refine WL.l rfl (ll [_]) ?_
   rintro _ w9 ⟨rfl,hb9,e9⟩
   have ns9:=e9.s
   refine uC 1 rfl ?_
   replace hb3:=hb3.m e9
   refine Hp rfl rfl hb3 fun w10 hb3 e10 hz10=>?_
   have ns10:=e10.s
   refine uD 3 rfl<|la rfl hb3<|uC 1 rfl ?_
   replace hb1:=(hb1.m e9).m e10
   refine Ho rfl rfl hb1 fun w11 hb1 e11 hz11=>?_
   have ns11:=e11.s
   refine uC 2 rfl<|WC.ret ?_
   replace hZS:=((hZS.m Xd).m (((((((e3.t e4).t e5).t e6).t e7).t e8).t e9).t e10)).m e11
   replace hZD:=((((((hZD.m e5).m e6).m e7).m e8).m e9).m e10).m e11
   replace hO2:=(((((hO2.m e6).m e7).m e8).m e9).m e10).m e11
   replace hZF:=((((hZF.m e7).m e8).m e9).m e10).m e11
   replace hO3:=(((hO3.m e8).m e9).m e10).m e11
   replace hb9:=(hb9.m e10).m e11
   replace he:=((he.t e9).t e10).t e11
   exact cw rfl hb1 fP rfl ⟨⟨hdl,did,tag,fmt,stl,more,[n],l',res,abo,bat,pl⟩,_,rfl,⟨_,_,_,_,_,_,rfl,(hZD.lowW (B:=fun b=>w.heap.size≤b) fun b _ h=>by omega),(hO2.toB (A:=fun b=>w.heap.size≤b) (fun b hb _=>by omega)),(hZF.lowW (B:=fun b=>w.heap.size≤b) fun b _ h=>by omega),dT.at1 hb9 (by omega),(hZS.lowW (B:=fun b=>w.heap.size≤b) fun b _ h=>by omega),(hO3.toB (A:=fun b=>w.heap.size≤b) (fun b hb _=>by omega))⟩,⟨rfl,rfl,rfl,rfl,rfl,rfl,rfl,qSB,rfl,rfl,rfl⟩,rfl,⟨o1,o2,o3,o4,⟨ql,qok⟩⟩,he.k fun k hk _=>hk⟩
end Go.Proofs.LL
