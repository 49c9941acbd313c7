/- Contracts of functions and own laws. Conditions: those that each theorem states. -/
import Derived.Test.YtdgbmbjkbmpcbaaGreatDoorV47
set_option linter.all false
set_option autoImplicit true
set_option relaxedAutoImplicit true
set_option maxRecDepth 20000
namespace Go.Proofs.LL
open Go Go.Proofs Go.RowKit
set_option maxHeartbeats 4000000
attribute [local irreducible] ar WL WC cq WT WX
theorem ot{A:Prop}(h:A:=by
 replace hb1:=hb1.m (e6.t e7)
 replace hb2:=hb2.m (e6.t e7)
 replace hB3:=hB3.m (e6.t e7)
 replace hO:=hO.m (e6.t e7)
 replace hV:=hV.m (e6.t e7)
 replace hA1:=hA1.m (e6.t e7)
 replace hR1:=hR1.m (e6.t e7)
 refine WC.regionDL 7 (tt [0,1,2]++ff [3,4,5]++tt [6]++ff [7]) (am (fun b=>b<N1∨b=wi1.heap.size) _) mixed (by kernel_rfl) Vd ?_
 have nd1w7:w7.drew.heap.size=w7.heap.size:=rfl
 refine jE 1 rfl<|dl rfl hB3 rfl<|He (fun _ hS=>ad Fo.h rfl hS hb6.at (hn:=by first|rfl|assumption))<|LL.cd rfl (hks _ (bf qi) _ _ _ (by have:=bo (bf qi);omega) (hR1.m Xd)) ?_
 rintro v8 w8 ⟨y0,y1,y2,y3,y4,y5,rfl,hU,e8⟩
 have q1y:=hU.one
 have hZU:=hU.k (B:=fun b=>(A b∧b<w.heap.size∨N1≤b)∧sv.ownBlock≠some b) (fun b h=>E7 h (by omega) (fun k hk=>qbel.2 k (by omega)) (fun k hk=>by have:=qlt k hk;omega))
 have:=e8.s
 refine⟨(Vd.t e8),?_⟩
 replace he:=((he.t (e6.t e7)).t Xd).t e8
 have:=he.s
 replace hb1:=(hb1.m Xd).m e8
 have:=hb1.lt
 replace hb2:=(hb2.m Xd).m e8
 have:=hb2.lt
 replace hb6:=(hb6.m Xd).m e8
 have:=hb6.lt
 refine WD.l rfl rfl (ll [_]) ?_
 rintro _ w9 ⟨rfl,hb9,e9⟩
 have:=e9.s
 refine⟨((Vd.t e8).t e9),?_⟩
 refine WD.l rfl rfl (vW (fun b=>b<N1∨b=wi1.heap.size) (fun k hk=>by rcases hk with hk|hk;exact qbel.2 k hk;exact hk▸qbel.1) Fo.h rfl rfl (((hO.m Xd).m e8).m e9) (((hV.m Xd).m e8).m e9) (ag.one (hZU.m e9)) (Src.at Fb.h hb9.at rfl q1y) (by omega) (by simp only[maxLen];omega) (by omega)) ?_
 rintro v10 w10 ⟨hO,hV,e10,e10s⟩
 obtain⟨q10,c10,hq10,_,_⟩:=hO.form
 subst hq10
 have:=e10.s
 refine⟨(((Vd.t e8).t e9).t e10s),?_⟩
 refine jE 1 rfl ?_
 replace hB3:=(((hB3.m Xd).m e8).m e9).m e10
 refine WD.l0L rfl rfl (lst rfl rfl hB3) ?_
 rintro _ w11 ⟨hB3,e11,hz11⟩
 have:=e11.s
 refine WT.nil<|jA 1 rfl<|ai rfl rfl rfl<|jC 2 rfl ?_
 replace hV:=hV.m e11
 rw[← mF qi]at hV
 replace hO:=hO.m e11
 exact⟨(i+1),sb,sb,⟨⟨_,_,hB3,hO,hV⟩,qi,(((((((hE.t (e6.t e7)).t Xd).t e8).t e9).t e10).t e11))⟩,(by show ks.length-(i+1)<ks.length-i;omega)⟩):A:=h
theorem fS(x:V):∀l:List V,bS (l++[x])=if x.kind=0 then bS l else l++[x]
 |[]=>by simp[bS]
 |a::r=>by
  have ih:=fS x r
  by_cases h:x.kind=0
  ·rw[if_pos h]at ih⊢;rw[List.cons_append,bS,ih,bS]
  ·rw[if_neg h]at ih⊢;rw[List.cons_append,bS,ih];cases r<;>rfl
theorem oF{x:V}(l:List V)(h:x.kind=0):bS (l++[x])=bS l:=by rw[fS,if_pos h]
theorem oG{x:V}(l:List V)(h:x.kind≠0):bS (l++[x])=l++[x]:=by rw[fS,if_neg h]
theorem yX{ks:List V}(h:0<ks.length):ks.head?.map V.kind=some (bA ks 0).kind:=by
 cases ks with
 |nil=>simp at h
 |cons a r=>rfl
theorem aT.slx{A R:Nat→Prop}{w:World}{B e n c m:Nat}{p:Option Addr}{cs:List Value}{ys:List V}(hO:aT B e 6 w (.slice p n c) n cs)(hV:ag R w ys cs)(hl:ys.length=n)(hm:m≤n)(hR:∀b,R b→A b)(hA:∀b,B≤b→b<w.heap.size→A b):cM A w (ys.take m).length (.slice p m c) (ag A w (ys.take m)):=by
 have ql:(ys.take m).length=m:=by rw[List.length_take];omega
 obtain⟨p',c',e1,e2,e3⟩:=hO.form
 simp only[Value.slice.injEq,true_and]at e1
 obtain⟨rfl,rfl⟩:=e1
 refine⟨p,c,cs.take (m * 6),by rw[ql],by omega,(hV.take m).k hR,?_⟩
 rcases Nat.eq_zero_or_pos m with h0|h0
 ·exact .inl (by omega)
 ·obtain⟨g,q1,q2,q3,q4⟩:=e3 (by omega)
  exact .inr ⟨g,0,q1,hA g q2 q3,q4.takeL _⟩
theorem vW{R:Nat→Prop}(C:Nat→Prop){bs:Nat}{zv v:Value}(hC:∀k,C k→v.ownBlock≠some k)(ht:fG P t=some (87,6,bs,zv))(hs:ov ρ s=some v)(hx:ov ρ x=some u)(hown:aT B 87 6 w v n cs)(hV:ag (fun b=>R b∧v.ownBlock≠some b) w ys cs)(hy:ag (fun b=>R b∧v.ownBlock≠some b) w ys' news)(hsrc:Src P 6 tx u m news w)(hB:B≤w.heap.size)(h63:n+m≤maxLen)(hbytes:(n+m) * bs≤140737488355328):
  aA P (.call ⟨.builtin .append, #[s,x], #[t,tx]⟩) ty ρ w (fun v' w'=>aT B 87 6 w' v' (n+m) (cs++news)∧ag (fun b=>R b∧v'.ownBlock≠some b) w' (ys++ys') (cs++news)∧am (fun k=>k<B) w w'∧am C w w'):=
 (eF ht hs hx hown hsrc hB h63 hbytes).imp fun v' w' ⟨h1,h2,h3⟩=>⟨h1,ag.pushG hV hy h2 h3,hown.evo (w0:=w) h2,h2.k fun k _ hk=>hC k hk⟩
def dU(x:V):Prop:=∀(A:Nat→Prop) (cx:List Value) (w:World),aE x≤1000000000→aC A w x cx→
 ah TP 178 [.agg cx.toArray] w fun r w'=>∃a b c d e f,r= .agg #[a,b,c,d,e,f]∧aC (fun b=>A b∧b<w.heap.size∨w.heap.size≤b) w' (bq x) [a,b,c,d,e,f]∧ay w w'
theorem mF{ks:List V}(hi:i<ks.length):aM (ks.take (i+1))=aM (ks.take i)++[bq (bA ks i)]:=by
 rw[jR,jR,← List.take_append_getElem hi,List.map_append,bW hi];rfl
theorem aC.mkKD{k o:Int}{ks d:List V}(h:cM A w ks.length sk (ag A w ks))(h':cM A w d.length sd (ag A w d)):aC A w (.mk k n t ks o d) [.int .i64 k,.int .u64 (n:Int),str t,sk,.int .i64 o,sd]:=by
 rw[aC];exact⟨_,_,rfl,h,h'⟩
theorem vr{k:Int}{o:Int}(h:k=20):bq (.mk k n t ks o d)= .mk 19 0 t (aM ks) 0 d:=by
 rw[bq,if_neg (by omega),if_pos h]
theorem pL{k:Int}{o:Int}{d:List V}(h:k=21)(h1:d.length=1):bq (.mk k n t ks o d)= .mk k n t (bS (aM ks)) o d:=by
 rw[bq,if_neg (by omega),if_neg (by omega),if_pos ⟨h,h1⟩]
theorem xY{k:Int}{ks:List V}{o:Int}(h:k=23)(h1:ks.length=1)(h2:(bA ks 0).kind=20):bq (.mk k n t ks o d)=pv 19 0 (bA ks 0).text:=by
 match ks,h1 with
 |[a],_=>rw[bq,if_pos ⟨h,rfl,congrArg some h2⟩];rfl
theorem lx{k:Int}{ks:List V}{o:Int}{d:List V}(h:k≠20)(h1:¬(k=23∧ks.length=1∧(ks.head?.map V.kind)=some 20))(h2:¬(k=21∧d.length=1)):bq (.mk k n t ks o d)= .mk k n t (aM ks) o d:=by
 rw[bq,if_neg h1,if_neg h,if_neg h2]
theorem E7{A:Nat→Prop}{N1:Nat}(h:(A b∧b<N0)∧b<N1∨N1≤b)(h1:M≤N1){s:Value}(q1:∀k,k<N0→s.ownBlock≠some k)(q2:∀k,s.ownBlock=some k→k<N1):(A b∧b<N0∨M≤b)∧s.ownBlock≠some b:=by
 rcases h with⟨h,_⟩|h
 ·exact⟨.inl h,q1 b h.2⟩
 ·exact⟨.inr (by omega),fun e=>by have:=q2 b e;omega⟩
theorem vp{k:Int}{ks:List V}{o:Int}(hks:∀x∈ks,dU x)(h:k=20):dU (.mk k n t ks o d):=by
 intro A cx w hv hx
 rw[aE]at hv
 have hkl:=av ks
 replace hx:=hx.weakenW (B:=fun b=>A b∧b<w.heap.size) (fun b hb h=>⟨h,hb⟩)
 obtain⟨pk,ck,pd,cd,rfl,_,_,hK,hD⟩:=hx.openV
 refine co Tryz.func178 ?_
 have he:=Hi w
 refine jA 2 rfl ?_
 have hs1:=he.s
 refine Hb rfl fun w1 hb1 e1=>?_
 have nx1:=hb1.lt
 have ns1:=e1.s
 replace he:=he.t e1
 have hs2:=he.s
 have hx2b1:=hb1.lt
 refine Ha fun w2 hb2 e2=>?_
 have nx2:=hb2.lt
 have ns2:=e2.s
 refine jD 3 rfl ?_
 replace hb1:=hb1.m e2
 refine la rfl hb1 ?_
 replace he:=he.t e2
 have hs3:=he.s
 have hx3b1:=hb1.lt
 have hx3b2:=hb2.lt
 refine Ha fun w3 hb3 e3=>?_
 have nx3:=hb3.lt
 have ns3:=e3.s
 refine Ho rfl rfl hb3 fun w4 hb3 e4 hz4=>?_
 have ns4:=e4.s
 refine jD 4 rfl<|Hp rfl rfl hb3 fun w5 hb3 e5 hz5=>?_
 have ns5:=e5.s
 refine jD 5 rfl ?_
 replace hb1:=hb1.m ((e3.t e4).t e5)
 refine ld rfl hb1 rfl<|Hq (ae (ak rfl rfl) (br (h)))<|jD 4 rfl<|ld rfl hb1 rfl<|jC 1 rfl<|ld rfl hb1 rfl<|Hq (az (cs:=[_,_,_,_,_,_]) Fo.h rfl rfl)<|Ho rfl rfl hb3 fun w6 hb3 e6 hz6=>?_
 have ns6:=e6.s
 refine jD 5 rfl ?_
 replace hb1:=hb1.m e6
 refine ld rfl hb1 rfl<|Hq (ae (ak rfl rfl) (bk (by(omega))))<|jD 17 rfl<|jA 4 rfl<|ld rfl hb1 rfl<|jD 4 rfl ?_
 obtain⟨N1,eN1⟩:∃M,M=w6.heap.size:=⟨_,rfl⟩
 replace hK:=((hK.m e1).m e2).m (((e3.t e4).t e5).t e6)
 replace hD:=((hD.m e1).m e2).m (((e3.t e4).t e5).t e6)
 replace hb2:=hb2.m (((e3.t e4).t e5).t e6)
 replace he:=he.t (((e3.t e4).t e5).t e6)
 refine WC.loop2 (ι:=Nat) [(1,_),(2,_),(3,_),(40,_),(41,_)] (fun i=>[(42,.int .i64 (i:Int))]) (fun i wi=>(∃sv cs,aH wi w2.heap.size [.int .i64 19,.int .u64 ((0:Nat):Int),str t,sv,.int .i64 0,.slice pd d.length cd]∧aT N1 87 6 wi sv i cs∧ag (fun b=>(A b∧b<w.heap.size∨N1≤b)∧sv.ownBlock≠some b) wi (aM (ks.take i)) cs)∧i≤ks.length∧am (fun b=>b<N1∧b≠w2.heap.size) w6 wi) (fun i=>ks.length-i) 0 sb sb (⟨⟨_,[],hb3,aT.nil _ _ _ _,by rw[List.take_zero,aM,ag]⟩,Nat.zero_le _,am.refl _⟩) ?_
 intro i wi1 hh;obtain⟨⟨sv,cs,hB3,hO,hV⟩,ni,hE⟩:=hh
 have nwi:=hE.s
 rcases Nat.lt_or_ge i ks.length with qi|qi
 replace hK:=hK.m hE
 ·obtain⟨b,o1,c1,rfl,_,hA1,l1,hR1⟩:=hK.kid qi
  obtain⟨x0,x1,x2,x3,x4,x5,rfl⟩:=hR1.six
  have q1:=hR1.one
  have qbel:=hO.below
  have qlt:=hO.lt
  refine jA 2 rfl<|lT rfl rfl<|jD 8 rfl<|ix rfl rfl rfl<|Hq (ad Fo.h rfl Xr hA1 (hn:=rfl)) ?_
  replace he:=he.t hE
  have hs7:=he.s
  replace hb1:=hb1.m hE
  have hx7b1:=hb1.lt
  replace hb2:=hb2.m hE
  have hx7b2:=hb2.lt
  refine Ha fun w7 hb7 e7=>?_
  have nx7:=hb7.lt
  have ns7:=e7.s
  refine Ho rfl rfl hb7 fun w8 hb7 e8 hz8=>?_
  have ns8:=e8.s
  refine WL.nil ?_
  replace hK:=hK.m (e7.t e8)
  replace hD:=(hD.m hE).m (e7.t e8)
  replace hb1:=hb1.m (e7.t e8)
  replace hb2:=hb2.m (e7.t e8)
  replace hB3:=hB3.m (e7.t e8)
  replace hO:=hO.m (e7.t e8)
  replace hV:=hV.m (e7.t e8)
  replace hA1:=hA1.m (e7.t e8)
  replace hR1:=hR1.m (e7.t e8)
  refine WC.regionDL 7 (tt [0,1,2]++ff [3,4,5]++tt [6]++ff [7]) (am (fun b=>b<N1∨b=wi1.heap.size) _) mixed (by kernel_rfl) Vd ?_
  have nd1w8:w8.drew.heap.size=w8.heap.size:=rfl
  refine jE 1 rfl<|dl rfl hB3 rfl<|He (fun _ hS=>ad Fo.h rfl hS hb7.at (hn:=by first|rfl|assumption))<|LL.cd rfl (hks _ (bf qi) _ _ _ (by have:=bo (bf qi);omega) (hR1.m Xd)) ?_
  rintro v9 w9 ⟨y0,y1,y2,y3,y4,y5,rfl,hU,e9⟩
  have q1y:=hU.one
  have hZU:=hU.k (B:=fun b=>(A b∧b<w.heap.size∨N1≤b)∧sv.ownBlock≠some b) (fun b h=>E7 h (by omega) (fun k hk=>qbel.2 k (by omega)) (fun k hk=>by have:=qlt k hk;omega))
  have ns9:=e9.s
  refine⟨(Vd.t e9),?_⟩
  replace he:=((he.t (e7.t e8)).t Xd).t e9
  have hs10:=he.s
  replace hb1:=(hb1.m Xd).m e9
  have hx10b1:=hb1.lt
  replace hb2:=(hb2.m Xd).m e9
  have hx10b2:=hb2.lt
  replace hb7:=(hb7.m Xd).m e9
  have hx10b7:=hb7.lt
  refine WD.l rfl rfl (ll [_]) ?_
  rintro _ w10 ⟨rfl,hb10,e10⟩
  have ns10:=e10.s
  refine⟨((Vd.t e9).t e10),?_⟩
  refine WD.l rfl rfl (vW (fun b=>b<N1∨b=wi1.heap.size) (fun k hk=>by rcases hk with hk|hk;exact qbel.2 k hk;exact hk▸qbel.1) Fo.h rfl rfl (((hO.m Xd).m e9).m e10) (((hV.m Xd).m e9).m e10) (ag.one (hZU.m e10)) (Src.at Fb.h hb10.at rfl q1y) (by omega) (by simp only[maxLen];omega) (by omega)) ?_
  rintro v11 w11 ⟨hO,hV,e11,e11s⟩
  obtain⟨q11,c11,hq11,_,_⟩:=hO.form
  subst hq11
  have ns11:=e11.s
  refine⟨(((Vd.t e9).t e10).t e11s),?_⟩
  refine jE 1 rfl ?_
  replace hB3:=(((hB3.m Xd).m e9).m e10).m e11
  refine WD.l0L rfl rfl (lst rfl rfl hB3) ?_
  rintro _ w12 ⟨hB3,e12,hz12⟩
  have ns12:=e12.s
  refine WT.nil<|jA 1 rfl<|ai rfl rfl rfl<|jC 2 rfl ?_
  replace hV:=hV.m e12
  rw[← mF qi]at hV
  replace hO:=hO.m e12
  exact⟨(i+1),sb,sb,⟨⟨_,_,hB3,hO,hV⟩,qi,(((((((hE.t (e7.t e8)).t Xd).t e9).t e10).t e11).t e12))⟩,(by show ks.length-(i+1)<ks.length-i;omega)⟩
 ·have hil:i=ks.length:=by omega
  rw[hil,List.take_length]at hV
  subst hil
  obtain⟨q0,c0,hq0,_,_⟩:=hO.form
  subst hq0
  have qul:=aZ ks
  refine jA 2 rfl<|lF rfl rfl<|jD 3 rfl<|WC.exit<|jA 4 rfl ?_
  replace hb1:=hb1.m hE
  refine ld rfl hb1 rfl<|Hq (ae (ak rfl rfl) (bk (by(omega))))<|jD 9 rfl<|jA 2 rfl<|la rfl hB3 ?_
  replace hb2:=hb2.m hE
  refine Ho rfl rfl hb2 fun w7 hb2 e7 hz7=>?_
  have ns7:=e7.s
  refine WL.nil<|WC.ret ?_
  replace hO:=hO.m e7
  replace hV:=hV.m e7
  have qK:cM (fun b=>A b∧b<w.heap.size∨w.heap.size≤b) w7 (aM ks).length (.slice q0 ks.length c0) (ag (fun b=>A b∧b<w.heap.size∨w.heap.size≤b) w7 (aM ks)):=by have h:=aT.slx (A:=fun b=>A b∧b<w.heap.size∨w.heap.size≤b) (m:=ks.length) hO hV qul (Nat.le_refl _) (fun b h=>by rcases h.1 with h|h;exact .inl h;exact .inr (by omega)) (fun b hb _=> .inr (by omega));rw[List.take_of_length_le (by omega)]at h;exact h
  replace hD:=(hD.m hE).m e7
  have qR:=aC.mkKD (k:=19) (n:=0) (t:=t) (o:=0) qK (hD.low (fun b h=> .inl h))
  replace he:=(he.t hE).t e7
  exact cO rfl hb2 bR ⟨_,_,_,_,_,_,rfl,by rw[vr h];exact qR,he.k fun k hk _=>hk⟩
theorem rJ{k:Int}{ks:List V}{o:Int}(hks:∀x∈ks,dU x)(h:k≠20)(h1:k≠23)(h2:k≠21):dU (.mk k n t ks o d):=by
 intro A cx w hv hx
 rw[aE]at hv
 have hkl:=av ks
 replace hx:=hx.weakenW (B:=fun b=>A b∧b<w.heap.size) (fun b hb h=>⟨h,hb⟩)
 obtain⟨pk,ck,pd,cd,rfl,_,_,hK,hD⟩:=hx.openV
 refine co Tryz.func178 ?_
 have he:=Hi w
 refine jA 2 rfl ?_
 have hs1:=he.s
 refine Hb rfl fun w1 hb1 e1=>?_
 have nx1:=hb1.lt
 have ns1:=e1.s
 replace he:=he.t e1
 have hs2:=he.s
 have hx2b1:=hb1.lt
 refine Ha fun w2 hb2 e2=>?_
 have nx2:=hb2.lt
 have ns2:=e2.s
 refine jD 3 rfl ?_
 replace hb1:=hb1.m e2
 refine la rfl hb1 ?_
 replace he:=he.t e2
 have hs3:=he.s
 have hx3b1:=hb1.lt
 have hx3b2:=hb2.lt
 refine Ha fun w3 hb3 e3=>?_
 have nx3:=hb3.lt
 have ns3:=e3.s
 refine Ho rfl rfl hb3 fun w4 hb3 e4 hz4=>?_
 have ns4:=e4.s
 refine jD 4 rfl<|Hp rfl rfl hb3 fun w5 hb3 e5 hz5=>?_
 have ns5:=e5.s
 refine jD 5 rfl ?_
 replace hb1:=hb1.m ((e3.t e4).t e5)
 refine ld rfl hb1 rfl<|Hq (ae (ak rfl rfl) (bk (h)))<|jD 3 rfl<|jA 4 rfl<|ld rfl hb1 rfl<|Hq (ae (ak rfl rfl) (bk (h1)))<|jD 17 rfl<|jA 4 rfl<|ld rfl hb1 rfl<|jD 4 rfl ?_
 obtain⟨N1,eN1⟩:∃M,M=w5.heap.size:=⟨_,rfl⟩
 replace hK:=((hK.m e1).m e2).m ((e3.t e4).t e5)
 replace hD:=((hD.m e1).m e2).m ((e3.t e4).t e5)
 replace hb2:=hb2.m ((e3.t e4).t e5)
 replace he:=he.t ((e3.t e4).t e5)
 refine WC.loop2 (ι:=Nat) [(1,_),(2,_),(3,_),(40,_),(41,_)] (fun i=>[(42,.int .i64 (i:Int))]) (fun i wi=>(∃sv cs,aH wi w2.heap.size [.int .i64 k,.int .u64 (n:Int),str t,sv,.int .i64 o,.slice pd d.length cd]∧aT N1 87 6 wi sv i cs∧ag (fun b=>(A b∧b<w.heap.size∨N1≤b)∧sv.ownBlock≠some b) wi (aM (ks.take i)) cs)∧i≤ks.length∧am (fun b=>b<N1∧b≠w2.heap.size) w5 wi) (fun i=>ks.length-i) 0 sb sb (⟨⟨_,[],hb3,aT.nil _ _ _ _,by rw[List.take_zero,aM,ag]⟩,Nat.zero_le _,am.refl _⟩) ?_
 intro i wi1 hh;obtain⟨⟨sv,cs,hB3,hO,hV⟩,ni,hE⟩:=hh
 have nwi:=hE.s
 rcases Nat.lt_or_ge i ks.length with qi|qi
 replace hK:=hK.m hE
 ·obtain⟨b,o1,c1,rfl,_,hA1,l1,hR1⟩:=hK.kid qi
  obtain⟨x0,x1,x2,x3,x4,x5,rfl⟩:=hR1.six
  have q1:=hR1.one
  have qbel:=hO.below
  have qlt:=hO.lt
  refine jA 2 rfl<|lT rfl rfl<|jD 8 rfl<|ix rfl rfl rfl<|Hq (ad Fo.h rfl Xr hA1 (hn:=rfl)) ?_
  replace he:=he.t hE
  have hs6:=he.s
  replace hb1:=hb1.m hE
  have hx6b1:=hb1.lt
  replace hb2:=hb2.m hE
  have hx6b2:=hb2.lt
  refine Ha fun w6 hb6 e6=>?_
  have nx6:=hb6.lt
  have ns6:=e6.s
  refine Ho rfl rfl hb6 fun w7 hb6 e7 hz7=>?_
  have ns7:=e7.s
  refine WL.nil ?_
  replace hK:=hK.m (e6.t e7)
  replace hD:=(hD.m hE).m (e6.t e7)
  exact ot
 ·have hil:i=ks.length:=by omega
  rw[hil,List.take_length]at hV
  subst hil
  obtain⟨q0,c0,hq0,_,_⟩:=hO.form
  subst hq0
  have qul:=aZ ks
  refine jA 2 rfl<|lF rfl rfl<|jD 3 rfl<|WC.exit<|jA 4 rfl ?_
  replace hb1:=hb1.m hE
  refine ld rfl hb1 rfl<|Hq (ae (ak rfl rfl) (bk (h2)))<|jD 9 rfl<|jA 2 rfl<|la rfl hB3 ?_
  replace hb2:=hb2.m hE
  refine Ho rfl rfl hb2 fun w6 hb2 e6 hz6=>?_
  have ns6:=e6.s
  refine WL.nil<|WC.ret ?_
  replace hO:=hO.m e6
  replace hV:=hV.m e6
  have qK:cM (fun b=>A b∧b<w.heap.size∨w.heap.size≤b) w6 (aM ks).length (.slice q0 ks.length c0) (ag (fun b=>A b∧b<w.heap.size∨w.heap.size≤b) w6 (aM ks)):=by have h:=aT.slx (A:=fun b=>A b∧b<w.heap.size∨w.heap.size≤b) (m:=ks.length) hO hV qul (Nat.le_refl _) (fun b h=>by rcases h.1 with h|h;exact .inl h;exact .inr (by omega)) (fun b hb _=> .inr (by omega));rw[List.take_of_length_le (by omega)]at h;exact h
  replace hD:=(hD.m hE).m e6
  have qR:=aC.mkKD (k:=k) (n:=n) (t:=t) (o:=o) qK (hD.low (fun b h=> .inl h))
  replace he:=(he.t hE).t e6
  exact cO rfl hb2 bR ⟨_,_,_,_,_,_,rfl,by rw[lx h (fun e=>absurd e.1 h1) (fun e=>absurd e.1 h2)];exact qR,he.k fun k hk _=>hk⟩
theorem tC{k:Int}{ks:List V}{o:Int}{d:List V}(hks:∀x∈ks,dU x)(h2:k=21)(h1:d.length≠1):dU (.mk k n t ks o d):=by
 intro A cx w hv hx
 rw[aE]at hv
 have hkl:=av ks
 replace hx:=hx.weakenW (B:=fun b=>A b∧b<w.heap.size) (fun b hb h=>⟨h,hb⟩)
 obtain⟨pk,ck,pd,cd,rfl,_,_,hK,hD⟩:=hx.openV
 refine co Tryz.func178 ?_
 have he:=Hi w
 refine jA 2 rfl ?_
 have hs1:=he.s
 refine Hb rfl fun w1 hb1 e1=>?_
 have nx1:=hb1.lt
 have ns1:=e1.s
 replace he:=he.t e1
 have hs2:=he.s
 have hx2b1:=hb1.lt
 refine Ha fun w2 hb2 e2=>?_
 have nx2:=hb2.lt
 have ns2:=e2.s
 refine jD 3 rfl ?_
 replace hb1:=hb1.m e2
 refine la rfl hb1 ?_
 replace he:=he.t e2
 have hs3:=he.s
 have hx3b1:=hb1.lt
 have hx3b2:=hb2.lt
 refine Ha fun w3 hb3 e3=>?_
 have nx3:=hb3.lt
 have ns3:=e3.s
 refine Ho rfl rfl hb3 fun w4 hb3 e4 hz4=>?_
 have ns4:=e4.s
 refine jD 4 rfl<|Hp rfl rfl hb3 fun w5 hb3 e5 hz5=>?_
 have ns5:=e5.s
 refine jD 5 rfl ?_
 replace hb1:=hb1.m ((e3.t e4).t e5)
 refine ld rfl hb1 rfl<|Hq (ae (ak rfl rfl) (bk (by(omega))))<|jD 3 rfl<|jA 4 rfl<|ld rfl hb1 rfl<|Hq (ae (ak rfl rfl) (bk (by(omega))))<|jD 17 rfl<|jA 4 rfl<|ld rfl hb1 rfl<|jD 4 rfl ?_
 obtain⟨N1,eN1⟩:∃M,M=w5.heap.size:=⟨_,rfl⟩
 replace hK:=((hK.m e1).m e2).m ((e3.t e4).t e5)
 replace hD:=((hD.m e1).m e2).m ((e3.t e4).t e5)
 replace hb2:=hb2.m ((e3.t e4).t e5)
 replace he:=he.t ((e3.t e4).t e5)
 refine WC.loop2 (ι:=Nat) [(1,_),(2,_),(3,_),(40,_),(41,_)] (fun i=>[(42,.int .i64 (i:Int))]) (fun i wi=>(∃sv cs,aH wi w2.heap.size [.int .i64 k,.int .u64 (n:Int),str t,sv,.int .i64 o,.slice pd d.length cd]∧aT N1 87 6 wi sv i cs∧ag (fun b=>(A b∧b<w.heap.size∨N1≤b)∧sv.ownBlock≠some b) wi (aM (ks.take i)) cs)∧i≤ks.length∧am (fun b=>b<N1∧b≠w2.heap.size) w5 wi) (fun i=>ks.length-i) 0 sb sb (⟨⟨_,[],hb3,aT.nil _ _ _ _,by rw[List.take_zero,aM,ag]⟩,Nat.zero_le _,am.refl _⟩) ?_
 intro i wi1 hh;obtain⟨⟨sv,cs,hB3,hO,hV⟩,ni,hE⟩:=hh
 have nwi:=hE.s
 rcases Nat.lt_or_ge i ks.length with qi|qi
 replace hK:=hK.m hE
 ·obtain⟨b,o1,c1,rfl,_,hA1,l1,hR1⟩:=hK.kid qi
  obtain⟨x0,x1,x2,x3,x4,x5,rfl⟩:=hR1.six
  have q1:=hR1.one
  have qbel:=hO.below
  have qlt:=hO.lt
  refine jA 2 rfl<|lT rfl rfl<|jD 8 rfl<|ix rfl rfl rfl<|Hq (ad Fo.h rfl Xr hA1 (hn:=rfl)) ?_
  replace he:=he.t hE
  have hs6:=he.s
  replace hb1:=hb1.m hE
  have hx6b1:=hb1.lt
  replace hb2:=hb2.m hE
  have hx6b2:=hb2.lt
  refine Ha fun w6 hb6 e6=>?_
  have nx6:=hb6.lt
  have ns6:=e6.s
  refine Ho rfl rfl hb6 fun w7 hb6 e7 hz7=>?_
  have ns7:=e7.s
  refine WL.nil ?_
  replace hK:=hK.m (e6.t e7)
  replace hD:=(hD.m hE).m (e6.t e7)
  exact ot
 ·have hil:i=ks.length:=by omega
  rw[hil,List.take_length]at hV
  subst hil
  obtain⟨q0,c0,hq0,_,_⟩:=hO.form
  subst hq0
  have qul:=aZ ks
  refine jA 2 rfl<|lF rfl rfl<|jD 3 rfl<|WC.exit<|jA 4 rfl ?_
  replace hb1:=hb1.m hE
  refine ld rfl hb1 rfl<|Hq (ae (ak rfl rfl) (br (h2)))<|jC 2 rfl<|lg rfl rfl rfl hb1 rfl<|jC 1 rfl<|Hg rfl rfl (ae (ak rfl rfl) (bk (by(omega))))<|jD 4 rfl<|jA 2 rfl<|la rfl hB3 ?_
  replace hb2:=hb2.m hE
  refine Ho rfl rfl hb2 fun w6 hb2 e6 hz6=>?_
  have ns6:=e6.s
  refine WL.nil<|WC.ret ?_
  replace hO:=hO.m e6
  replace hV:=hV.m e6
  have qK:cM (fun b=>A b∧b<w.heap.size∨w.heap.size≤b) w6 (aM ks).length (.slice q0 ks.length c0) (ag (fun b=>A b∧b<w.heap.size∨w.heap.size≤b) w6 (aM ks)):=by have h:=aT.slx (A:=fun b=>A b∧b<w.heap.size∨w.heap.size≤b) (m:=ks.length) hO hV qul (Nat.le_refl _) (fun b h=>by rcases h.1 with h|h;exact .inl h;exact .inr (by omega)) (fun b hb _=> .inr (by omega));rw[List.take_of_length_le (by omega)]at h;exact h
  replace hD:=(hD.m hE).m e6
  have qR:=aC.mkKD (k:=k) (n:=n) (t:=t) (o:=o) qK (hD.low (fun b h=> .inl h))
  replace he:=(he.t hE).t e6
  exact cO rfl hb2 bR ⟨_,_,_,_,_,_,rfl,by rw[lx (by omega) (fun e=>by omega) (fun e=>h1 e.2)];exact qR,he.k fun k hk _=>hk⟩
theorem vn{k:Int}{ks:List V}{o:Int}(hks:∀x∈ks,dU x)(h:k=23)(h1:ks.length≠1):dU (.mk k n t ks o d):=by
 intro A cx w hv hx
 rw[aE]at hv
 have hkl:=av ks
 replace hx:=hx.weakenW (B:=fun b=>A b∧b<w.heap.size) (fun b hb h=>⟨h,hb⟩)
 obtain⟨pk,ck,pd,cd,rfl,_,_,hK,hD⟩:=hx.openV
 refine co Tryz.func178 ?_
 have he:=Hi w
 refine jA 2 rfl ?_
 have hs1:=he.s
 refine Hb rfl fun w1 hb1 e1=>?_
 have nx1:=hb1.lt
 have ns1:=e1.s
 replace he:=he.t e1
 have hs2:=he.s
 have hx2b1:=hb1.lt
 refine Ha fun w2 hb2 e2=>?_
 have nx2:=hb2.lt
 have ns2:=e2.s
 refine jD 3 rfl ?_
 replace hb1:=hb1.m e2
 refine la rfl hb1 ?_
 replace he:=he.t e2
 have hs3:=he.s
 have hx3b1:=hb1.lt
 have hx3b2:=hb2.lt
 refine Ha fun w3 hb3 e3=>?_
 have nx3:=hb3.lt
 have ns3:=e3.s
 refine Ho rfl rfl hb3 fun w4 hb3 e4 hz4=>?_
 have ns4:=e4.s
 refine jD 4 rfl<|Hp rfl rfl hb3 fun w5 hb3 e5 hz5=>?_
 have ns5:=e5.s
 refine jD 5 rfl ?_
 replace hb1:=hb1.m ((e3.t e4).t e5)
 refine ld rfl hb1 rfl<|Hq (ae (ak rfl rfl) (bk (by(omega))))<|jD 3 rfl<|jA 4 rfl<|ld rfl hb1 rfl<|Hq (ae (ak rfl rfl) (br (h)))<|jC 2 rfl<|lg rfl rfl rfl hb1 rfl<|jC 1 rfl<|Hg rfl rfl (ae (ak rfl rfl) (bk (by(omega))))<|jD 12 rfl<|jA 4 rfl<|ld rfl hb1 rfl<|jD 4 rfl ?_
 obtain⟨N1,eN1⟩:∃M,M=w5.heap.size:=⟨_,rfl⟩
 replace hK:=((hK.m e1).m e2).m ((e3.t e4).t e5)
 replace hD:=((hD.m e1).m e2).m ((e3.t e4).t e5)
 replace hb2:=hb2.m ((e3.t e4).t e5)
 replace he:=he.t ((e3.t e4).t e5)
 refine WC.loop2 (ι:=Nat) [(1,_),(2,_),(3,_),(40,_),(41,_)] (fun i=>[(42,.int .i64 (i:Int))]) (fun i wi=>(∃sv cs,aH wi w2.heap.size [.int .i64 k,.int .u64 (n:Int),str t,sv,.int .i64 o,.slice pd d.length cd]∧aT N1 87 6 wi sv i cs∧ag (fun b=>(A b∧b<w.heap.size∨N1≤b)∧sv.ownBlock≠some b) wi (aM (ks.take i)) cs)∧i≤ks.length∧am (fun b=>b<N1∧b≠w2.heap.size) w5 wi) (fun i=>ks.length-i) 0 sb sb (⟨⟨_,[],hb3,aT.nil _ _ _ _,by rw[List.take_zero,aM,ag]⟩,Nat.zero_le _,am.refl _⟩) ?_
 intro i wi1 hh;obtain⟨⟨sv,cs,hB3,hO,hV⟩,ni,hE⟩:=hh
 have nwi:=hE.s
 rcases Nat.lt_or_ge i ks.length with qi|qi
 replace hK:=hK.m hE
 ·obtain⟨b,o1,c1,rfl,_,hA1,l1,hR1⟩:=hK.kid qi
  obtain⟨x0,x1,x2,x3,x4,x5,rfl⟩:=hR1.six
  have q1:=hR1.one
  have qbel:=hO.below
  have qlt:=hO.lt
  refine jA 2 rfl<|lT rfl rfl<|jD 8 rfl<|ix rfl rfl rfl<|Hq (ad Fo.h rfl Xr hA1 (hn:=rfl)) ?_
  replace he:=he.t hE
  have hs6:=he.s
  replace hb1:=hb1.m hE
  have hx6b1:=hb1.lt
  replace hb2:=hb2.m hE
  have hx6b2:=hb2.lt
  refine Ha fun w6 hb6 e6=>?_
  have nx6:=hb6.lt
  have ns6:=e6.s
  refine Ho rfl rfl hb6 fun w7 hb6 e7 hz7=>?_
  have ns7:=e7.s
  refine WL.nil ?_
  replace hK:=hK.m (e6.t e7)
  replace hD:=(hD.m hE).m (e6.t e7)
  exact ot
 ·have hil:i=ks.length:=by omega
  rw[hil,List.take_length]at hV
  subst hil
  obtain⟨q0,c0,hq0,_,_⟩:=hO.form
  subst hq0
  have qul:=aZ ks
  refine jA 2 rfl<|lF rfl rfl<|jD 3 rfl<|WC.exit<|jA 4 rfl ?_
  replace hb1:=hb1.m hE
  refine ld rfl hb1 rfl<|Hq (ae (ak rfl rfl) (bk (by(omega))))<|jD 9 rfl<|jA 2 rfl<|la rfl hB3 ?_
  replace hb2:=hb2.m hE
  refine Ho rfl rfl hb2 fun w6 hb2 e6 hz6=>?_
  have ns6:=e6.s
  refine WL.nil<|WC.ret ?_
  replace hO:=hO.m e6
  replace hV:=hV.m e6
  have qK:cM (fun b=>A b∧b<w.heap.size∨w.heap.size≤b) w6 (aM ks).length (.slice q0 ks.length c0) (ag (fun b=>A b∧b<w.heap.size∨w.heap.size≤b) w6 (aM ks)):=by have h:=aT.slx (A:=fun b=>A b∧b<w.heap.size∨w.heap.size≤b) (m:=ks.length) hO hV qul (Nat.le_refl _) (fun b h=>by rcases h.1 with h|h;exact .inl h;exact .inr (by omega)) (fun b hb _=> .inr (by omega));rw[List.take_of_length_le (by omega)]at h;exact h
  replace hD:=(hD.m hE).m e6
  have qR:=aC.mkKD (k:=k) (n:=n) (t:=t) (o:=o) qK (hD.low (fun b h=> .inl h))
  replace he:=(he.t hE).t e6
  exact cO rfl hb2 bR ⟨_,_,_,_,_,_,rfl,by rw[lx (by omega) (fun e=>h1 e.2.1) (fun e=>by omega)];exact qR,he.k fun k hk _=>hk⟩
theorem tA{k:Int}{ks:List V}{o:Int}(hks:∀x∈ks,dU x)(h:k=23)(h1:ks.length=1)(h3:(bA ks 0).kind≠20):dU (.mk k n t ks o d):=by
 intro A cx w hv hx
 rw[aE]at hv
 have hkl:=av ks
 replace hx:=hx.weakenW (B:=fun b=>A b∧b<w.heap.size) (fun b hb h=>⟨h,hb⟩)
 obtain⟨pk,ck,pd,cd,rfl,_,_,hK,hD⟩:=hx.openV
 obtain⟨b0,o0,c0k,rfl,_,hA0,l0,hR0⟩:=hK.kid (i:=0) (by omega)
 rcases hf0:bA ks 0 with⟨k0,n0,t0,ks0,oo0,d0⟩
 rw[hf0]at hR0 h3
 obtain⟨pk0,ck0,pd0,cd0,rfl,_,_,_,_⟩:=hR0.openV
 refine co Tryz.func178 ?_
 have he:=Hi w
 refine jA 2 rfl ?_
 have hs1:=he.s
 refine Hb rfl fun w1 hb1 e1=>?_
 have nx1:=hb1.lt
 have ns1:=e1.s
 replace he:=he.t e1
 have hs2:=he.s
 have hx2b1:=hb1.lt
 refine Ha fun w2 hb2 e2=>?_
 have nx2:=hb2.lt
 have ns2:=e2.s
 refine jD 3 rfl ?_
 replace hb1:=hb1.m e2
 refine la rfl hb1 ?_
 replace he:=he.t e2
 have hs3:=he.s
 have hx3b1:=hb1.lt
 have hx3b2:=hb2.lt
 refine Ha fun w3 hb3 e3=>?_
 have nx3:=hb3.lt
 have ns3:=e3.s
 refine Ho rfl rfl hb3 fun w4 hb3 e4 hz4=>?_
 have ns4:=e4.s
 refine jD 4 rfl<|Hp rfl rfl hb3 fun w5 hb3 e5 hz5=>?_
 have ns5:=e5.s
 refine jD 5 rfl ?_
 replace hb1:=hb1.m ((e3.t e4).t e5)
 refine ld rfl hb1 rfl<|Hq (ae (ak rfl rfl) (bk (by(omega))))<|jD 3 rfl<|jA 4 rfl<|ld rfl hb1 rfl<|Hq (ae (ak rfl rfl) (br (h)))<|jC 2 rfl<|lg rfl rfl rfl hb1 rfl<|jC 1 rfl<|Hg rfl rfl (ae (ak rfl rfl) (br (by(omega))))<|jC 3 rfl<|lg rfl rfl rfl hb1 rfl<|Hg rfl rfl (bd Fo.h rfl rfl rfl)<|jC 1 rfl ?_
 replace hA0:=((hA0.m e1).m e2).m ((e3.t e4).t e5)
 refine Hg rfl rfl (ao Fb.h rfl Xr (hA0.get (j:=0) rfl))<|Hg rfl rfl (ae (ak rfl rfl) (bk (h3)))<|jD 4 rfl<|jA 4 rfl<|ld rfl hb1 rfl<|jD 4 rfl ?_
 obtain⟨N1,eN1⟩:∃M,M=w5.heap.size:=⟨_,rfl⟩
 replace hK:=((hK.m e1).m e2).m ((e3.t e4).t e5)
 replace hD:=((hD.m e1).m e2).m ((e3.t e4).t e5)
 replace hb2:=hb2.m ((e3.t e4).t e5)
 replace he:=he.t ((e3.t e4).t e5)
 refine WC.loop2 (ι:=Nat) [(1,_),(2,_),(3,_),(40,_),(41,_)] (fun i=>[(42,.int .i64 (i:Int))]) (fun i wi=>(∃sv cs,aH wi w2.heap.size [.int .i64 k,.int .u64 (n:Int),str t,sv,.int .i64 o,.slice pd d.length cd]∧aT N1 87 6 wi sv i cs∧ag (fun b=>(A b∧b<w.heap.size∨N1≤b)∧sv.ownBlock≠some b) wi (aM (ks.take i)) cs)∧i≤ks.length∧am (fun b=>b<N1∧b≠w2.heap.size) w5 wi) (fun i=>ks.length-i) 0 sb sb (⟨⟨_,[],hb3,aT.nil _ _ _ _,by rw[List.take_zero,aM,ag]⟩,Nat.zero_le _,am.refl _⟩) ?_
 intro i wi1 hh;obtain⟨⟨sv,cs,hB3,hO,hV⟩,ni,hE⟩:=hh
 have nwi:=hE.s
 rcases Nat.lt_or_ge i ks.length with qi|qi
 replace hK:=hK.m hE
 ·obtain⟨c1,_,hA1,l1,hR1⟩:=hK.kidP qi
  obtain⟨x0,x1,x2,x3,x4,x5,rfl⟩:=hR1.six
  have q1:=hR1.one
  have qbel:=hO.below
  have qlt:=hO.lt
  refine jA 2 rfl<|lT rfl rfl<|jD 8 rfl<|ix rfl rfl rfl<|Hq (ad Fo.h rfl Xr hA1 (hn:=rfl)) ?_
  replace he:=he.t hE
  have hs6:=he.s
  replace hb1:=hb1.m hE
  have hx6b1:=hb1.lt
  replace hb2:=hb2.m hE
  have hx6b2:=hb2.lt
  refine Ha fun w6 hb6 e6=>?_
  have nx6:=hb6.lt
  have ns6:=e6.s
  refine Ho rfl rfl hb6 fun w7 hb6 e7 hz7=>?_
  have ns7:=e7.s
  refine WL.nil ?_
  replace hK:=hK.m (e6.t e7)
  replace hD:=(hD.m hE).m (e6.t e7)
  replace hA0:=(hA0.m hE).m (e6.t e7)
  exact ot
 ·have hil:i=ks.length:=by omega
  rw[hil,List.take_length]at hV
  subst hil
  obtain⟨q0,c0,hq0,_,_⟩:=hO.form
  subst hq0
  have qul:=aZ ks
  refine jA 2 rfl<|lF rfl rfl<|jD 3 rfl<|WC.exit<|jA 4 rfl ?_
  replace hb1:=hb1.m hE
  refine ld rfl hb1 rfl<|Hq (ae (ak rfl rfl) (bk (by(omega))))<|jD 9 rfl<|jA 2 rfl<|la rfl hB3 ?_
  replace hb2:=hb2.m hE
  refine Ho rfl rfl hb2 fun w6 hb2 e6 hz6=>?_
  have ns6:=e6.s
  refine WL.nil<|WC.ret ?_
  replace hO:=hO.m e6
  replace hV:=hV.m e6
  have qK:cM (fun b=>A b∧b<w.heap.size∨w.heap.size≤b) w6 (aM ks).length (.slice q0 ks.length c0) (ag (fun b=>A b∧b<w.heap.size∨w.heap.size≤b) w6 (aM ks)):=by have h:=aT.slx (A:=fun b=>A b∧b<w.heap.size∨w.heap.size≤b) (m:=ks.length) hO hV qul (Nat.le_refl _) (fun b h=>by rcases h.1 with h|h;exact .inl h;exact .inr (by omega)) (fun b hb _=> .inr (by omega));rw[List.take_of_length_le (by omega)]at h;exact h
  replace hD:=(hD.m hE).m e6
  have qR:=aC.mkKD (k:=k) (n:=n) (t:=t) (o:=o) qK (hD.low (fun b h=> .inl h))
  replace he:=(he.t hE).t e6
  exact cO rfl hb2 bR ⟨_,_,_,_,_,_,rfl,by rw[lx (by omega) (fun e=>h3 (by have h:=e.2.2;rw[yX (by omega),hf0]at h;exact Option.some.inj h)) (fun e=>by omega)];exact qR,he.k fun k hk _=>hk⟩
theorem tB{k:Int}{ks:List V}{o:Int}{d:List V}(hks:∀x∈ks,dU x)(h2:k=21)(h1:d.length=1):dU (.mk k n t ks o d):=by
 intro A cx w hv hx
 rw[aE]at hv
 have hkl:=av ks
 replace hx:=hx.weakenW (B:=fun b=>A b∧b<w.heap.size) (fun b hb h=>⟨h,hb⟩)
 obtain⟨pk,ck,pd,cd,rfl,_,_,hK,hD⟩:=hx.openV
 refine co Tryz.func178 ?_
 have he:=Hi w
 refine jA 2 rfl ?_
 have hs1:=he.s
 refine Hb rfl fun w1 hb1 e1=>?_
 have nx1:=hb1.lt
 have ns1:=e1.s
 replace he:=he.t e1
 have hs2:=he.s
 have hx2b1:=hb1.lt
 refine Ha fun w2 hb2 e2=>?_
 have nx2:=hb2.lt
 have ns2:=e2.s
 refine jD 3 rfl ?_
 replace hb1:=hb1.m e2
 refine la rfl hb1 ?_
 replace he:=he.t e2
 have hs3:=he.s
 have hx3b1:=hb1.lt
 have hx3b2:=hb2.lt
 refine Ha fun w3 hb3 e3=>?_
 have nx3:=hb3.lt
 have ns3:=e3.s
 refine Ho rfl rfl hb3 fun w4 hb3 e4 hz4=>?_
 have ns4:=e4.s
 refine jD 4 rfl<|Hp rfl rfl hb3 fun w5 hb3 e5 hz5=>?_
 have ns5:=e5.s
 refine jD 5 rfl ?_
 replace hb1:=hb1.m ((e3.t e4).t e5)
 refine ld rfl hb1 rfl<|Hq (ae (ak rfl rfl) (bk (by(omega))))<|jD 3 rfl<|jA 4 rfl<|ld rfl hb1 rfl<|Hq (ae (ak rfl rfl) (bk (by(omega))))<|jD 17 rfl<|jA 4 rfl<|ld rfl hb1 rfl<|jD 4 rfl ?_
 obtain⟨N1,eN1⟩:∃M,M=w5.heap.size:=⟨_,rfl⟩
 replace hK:=((hK.m e1).m e2).m ((e3.t e4).t e5)
 replace hD:=((hD.m e1).m e2).m ((e3.t e4).t e5)
 replace hb2:=hb2.m ((e3.t e4).t e5)
 replace he:=he.t ((e3.t e4).t e5)
 refine WC.loop2 (ι:=Nat) [(1,_),(2,_),(3,_),(40,_),(41,_)] (fun i=>[(42,.int .i64 (i:Int))]) (fun i wi=>(∃sv cs,aH wi w2.heap.size [.int .i64 k,.int .u64 (n:Int),str t,sv,.int .i64 o,.slice pd d.length cd]∧aT N1 87 6 wi sv i cs∧ag (fun b=>(A b∧b<w.heap.size∨N1≤b)∧sv.ownBlock≠some b) wi (aM (ks.take i)) cs)∧i≤ks.length∧am (fun b=>b<N1∧b≠w2.heap.size) w5 wi) (fun i=>ks.length-i) 0 sb sb (⟨⟨_,[],hb3,aT.nil _ _ _ _,by rw[List.take_zero,aM,ag]⟩,Nat.zero_le _,am.refl _⟩) ?_
 intro i wi1 hh;obtain⟨⟨sv,cs,hB3,hO,hV⟩,ni,hE⟩:=hh
 have nwi:=hE.s
 rcases Nat.lt_or_ge i ks.length with qi|qi
 replace hK:=hK.m hE
 ·obtain⟨b,o1,c1,rfl,_,hA1,l1,hR1⟩:=hK.kid qi
  obtain⟨x0,x1,x2,x3,x4,x5,rfl⟩:=hR1.six
  have q1:=hR1.one
  have qbel:=hO.below
  have qlt:=hO.lt
  refine jA 2 rfl<|lT rfl rfl<|jD 8 rfl<|ix rfl rfl rfl<|Hq (ad Fo.h rfl Xr hA1 (hn:=rfl)) ?_
  replace he:=he.t hE
  have hs6:=he.s
  replace hb1:=hb1.m hE
  have hx6b1:=hb1.lt
  replace hb2:=hb2.m hE
  have hx6b2:=hb2.lt
  refine Ha fun w6 hb6 e6=>?_
  have nx6:=hb6.lt
  have ns6:=e6.s
  refine Ho rfl rfl hb6 fun w7 hb6 e7 hz7=>?_
  have ns7:=e7.s
  refine WL.nil ?_
  replace hK:=hK.m (e6.t e7)
  replace hD:=(hD.m hE).m (e6.t e7)
  exact ot
 ·have hil:i=ks.length:=by omega
  rw[hil,List.take_length]at hV
  subst hil
  obtain⟨q0,c0,hq0,_,_⟩:=hO.form
  subst hq0
  have qul:=aZ ks
  refine jA 2 rfl<|lF rfl rfl<|jD 3 rfl<|WC.exit<|jA 4 rfl ?_
  replace hb1:=hb1.m hE
  refine ld rfl hb1 rfl<|Hq (ae (ak rfl rfl) (br (h2)))<|jC 2 rfl<|lg rfl rfl rfl hb1 rfl<|jC 1 rfl<|Hg rfl rfl (ae (ak rfl rfl) (br (by(omega))))<|jD 4 rfl ?_
  obtain⟨N2,eN2⟩:∃M,M=wi1.heap.size:=⟨_,rfl⟩
  replace hK:=hK.m hE
  replace hD:=hD.m hE
  replace hb2:=hb2.m hE
  replace he:=he.t hE
  refine WC.loop2 (ι:=Nat) [(1,_),(2,_),(3,_),(40,_),(41,_),(42,_)] (fun m=>[]) (fun m wi=>aH wi w2.heap.size [.int .i64 k,.int .u64 (n:Int),str t,.slice q0 m c0,.int .i64 o,.slice pd d.length cd]∧m≤ks.length∧bS (aM ks)=bS ((aM ks).take m)∧am (fun b=>b<N2∧b≠w2.heap.size) wi1 wi) (fun m=>m) ks.length sb .nil (⟨hB3,Nat.le_refl _,by rw[List.take_of_length_le (by omega)],am.refl _⟩) ?_
  intro m wi2 hh;obtain⟨hB3,nm,qN,hE⟩:=hh
  have nwi2:=hE.s
  rcases m with _|m
  ·refine jA 4 rfl<|ld rfl hB3 rfl<|jC 1 rfl<|Hq (ae (aS rfl rfl) (decide_eq_false (by(omega))))<|jD 14 rfl<|WC.exit<|jA 2 rfl<|la rfl hB3 ?_
   replace hb2:=hb2.m hE
   refine Ho rfl rfl hb2 fun w6 hb2 e6 hz6=>?_
   have ns6:=e6.s
   refine WL.nil<|WC.ret ?_
   have qK:cM (fun b=>A b∧b<w.heap.size∨w.heap.size≤b) w6 ([]:List V).length (.slice q0 0 c0) (ag (fun b=>A b∧b<w.heap.size∨w.heap.size≤b) w6 []):=⟨q0,c0,[],rfl,Nat.zero_le _,by rw[ag],.inl rfl⟩
   replace hD:=(hD.m hE).m e6
   have qR:=aC.mkKD (k:=k) (n:=n) (t:=t) (o:=o) qK (hD.low (fun b h=> .inl h))
   replace he:=(he.t hE).t e6
   exact cO rfl hb2 bR ⟨_,_,_,_,_,_,rfl,by rw[pL h2 h1,qN,List.take_zero,bS];exact qR,he.k fun k hk _=>hk⟩
  replace hO:=hO.m hE
  ·obtain⟨q2,c2,eq2,_,q3⟩:=hO.form
   simp only[Value.slice.injEq,true_and]at eq2
   obtain⟨rfl,rfl⟩:=eq2
   obtain⟨g,rfl,_,qgl,_⟩:=q3 (by omega)
   obtain⟨qat,_⟩:=hO.at0 (by omega)
   replace hV:=hV.m hE
   obtain⟨pre,cc,post,hcs,npre,hRy0⟩:=hV.get (i:=m) (by omega)
   rw[hcs]at qat
   have hcell:=qat.mid
   rw[npre]at hcell
   have qtk:(aM ks).take (m+1)=(aM ks).take m++[bA (aM ks) m]:=by rw[← List.take_append_getElem (by omega),bW (by omega)]
   rw[bW (by omega)]at hRy0
   rcases hfm:bA (aM ks) m with⟨km,nm2,tm,ksm,om,dm⟩
   rw[hfm]at hRy0 qtk
   obtain⟨pkm,ckm,pdm,cdm,rfl,_,_,_,_⟩:=hRy0.openV
   rcases Decidable.em (km=0)with qk|qk
   ·rw[qtk,oF (x:= .mk km nm2 tm ksm om dm) _ qk]at qN
    refine jA 4 rfl<|ld rfl hB3 rfl<|jC 1 rfl<|Hq (ae (aS rfl rfl) (decide_eq_true (by(omega))))<|jC 2 rfl<|lg rfl rfl rfl hB3 rfl<|jC 1 rfl<|lg rfl rfl rfl hB3 rfl<|jC 1 rfl<|Hg rfl rfl (bP (c:=(m:Int)) rfl rfl (by omega) (by omega) (by omega))<|Hg rfl rfl (bd Fo.h rfl rfl rfl)<|jC 1 rfl<|Hg rfl rfl (ao Fb.h rfl Xr (hcell.get (j:=0) rfl))<|Hg rfl rfl (ae (ak rfl rfl) (br (qk)))<|jD 4 rfl<|jA 3 rfl<|ld rfl hB3 rfl<|jC 1 rfl<|ld rfl hB3 rfl<|jC 1 rfl<|Hq (bP (c:=(m:Int)) rfl rfl (by omega) (by omega) (by omega))<|Hq (bu Fo.h rfl rfl rfl)<|jC 1 rfl<|Hp rfl rfl hB3 fun w6 hB3 e6 hz6=>?_
    have ns6:=e6.s
    refine WL.nil ?_
    exact⟨m,sb,.nil,⟨hB3,by omega,qN,((hE.t e6))⟩,(by show m<m+1;omega)⟩
   ·rw[qtk,oG (x:= .mk km nm2 tm ksm om dm) _ qk,← qtk]at qN
    refine jA 4 rfl<|ld rfl hB3 rfl<|jC 1 rfl<|Hq (ae (aS rfl rfl) (decide_eq_true (by(omega))))<|jC 2 rfl<|lg rfl rfl rfl hB3 rfl<|jC 1 rfl<|lg rfl rfl rfl hB3 rfl<|jC 1 rfl<|Hg rfl rfl (bP (c:=(m:Int)) rfl rfl (by omega) (by omega) (by omega))<|Hg rfl rfl (bd Fo.h rfl rfl rfl)<|jC 1 rfl<|Hg rfl rfl (ao Fb.h rfl Xr (hcell.get (j:=0) rfl))<|Hg rfl rfl (ae (ak rfl rfl) (bk (qk)))<|jD 3 rfl<|WC.exit<|jA 2 rfl<|la rfl hB3 ?_
    replace hb2:=hb2.m hE
    refine Ho rfl rfl hb2 fun w6 hb2 e6 hz6=>?_
    have ns6:=e6.s
    refine WL.nil<|WC.ret ?_
    replace hO:=hO.m e6
    replace hV:=hV.m e6
    have qK:=aT.slx (A:=fun b=>A b∧b<w.heap.size∨w.heap.size≤b) (m:=m+1) hO hV qul (by omega) (fun b h=>by rcases h.1 with h|h;exact .inl h;exact .inr (by omega)) (fun b hb _=> .inr (by omega))
    replace hD:=(hD.m hE).m e6
    have qR:=aC.mkKD (k:=k) (n:=n) (t:=t) (o:=o) qK (hD.low (fun b h=> .inl h))
    replace he:=(he.t hE).t e6
    exact cO rfl hb2 bR ⟨_,_,_,_,_,_,rfl,by rw[pL h2 h1,qN];exact qR,he.k fun k hk _=>hk⟩
theorem vo{k:Int}{ks:List V}{o:Int}(h:k=23)(h1:ks.length=1)(h3:(bA ks 0).kind=20):dU (.mk k n t ks o d):=by
 intro A cx w hv hx
 replace hx:=hx.weakenW (B:=fun b=>A b∧b<w.heap.size) (fun b hb h=>⟨h,hb⟩)
 obtain⟨pk,ck,pd,cd,rfl,_,_,hK,hD⟩:=hx.openV
 obtain⟨b0,o0,c0k,rfl,_,hA0,l0,hR0⟩:=hK.kid (i:=0) (by omega)
 rcases hf0:bA ks 0 with⟨k0,n0,t0,ks0,oo0,d0⟩
 have h3':=h3
 rw[hf0]at hR0 h3
 obtain⟨pk0,ck0,pd0,cd0,rfl,_,_,_,_⟩:=hR0.openV
 refine co Tryz.func178 ?_
 have he:=Hi w
 refine jA 2 rfl ?_
 have:=he.s
 refine Hb rfl fun w1 hb1 e1=>?_
 have:=hb1.lt
 have:=e1.s
 replace he:=he.t e1
 have:=he.s
 have:=hb1.lt
 refine Ha fun w2 hb2 e2=>?_
 have:=hb2.lt
 have:=e2.s
 refine jD 3 rfl ?_
 replace hb1:=hb1.m e2
 refine la rfl hb1 ?_
 replace he:=he.t e2
 have:=he.s
 have:=hb1.lt
 have:=hb2.lt
 refine Ha fun w3 hb3 e3=>?_
 have:=hb3.lt
 have:=e3.s
 refine Ho rfl rfl hb3 fun w4 hb3 e4 hz4=>?_
 have:=e4.s
 refine jD 4 rfl<|Hp rfl rfl hb3 fun w5 hb3 e5 hz5=>?_
 have:=e5.s
 refine jD 5 rfl ?_
 replace hb1:=hb1.m ((e3.t e4).t e5)
 refine ld rfl hb1 rfl<|Hq (ae (ak rfl rfl) (bk (by(omega))))<|jD 3 rfl<|jA 4 rfl<|ld rfl hb1 rfl<|Hq (ae (ak rfl rfl) (br (h)))<|jC 2 rfl<|lg rfl rfl rfl hb1 rfl<|jC 1 rfl<|Hg rfl rfl (ae (ak rfl rfl) (br (by(omega))))<|jC 3 rfl<|lg rfl rfl rfl hb1 rfl<|Hg rfl rfl (bd Fo.h rfl rfl rfl)<|jC 1 rfl ?_
 replace hA0:=((hA0.m e1).m e2).m ((e3.t e4).t e5)
 refine Hg rfl rfl (ao Fb.h rfl Xr (hA0.get (j:=0) rfl)) ?_
 refine Hg rfl rfl (ae (ak rfl rfl) (br (h3)))<|jD 6 rfl<|ld rfl hb1 rfl<|ix rfl rfl rfl<|jC 1 rfl ?_
 refine Hq (ao Fb.h rfl Xr (hA0.get (j:=2) rfl)) ?_
 refine Hq (az (cs:=[_,_,_,_,_,_]) Fo.h rfl rfl) ?_
 replace hb2:=hb2.m ((e3.t e4).t e5)
 refine Ho rfl rfl hb2 fun w6 hb2 e6 hz6=>?_
 have:=e6.s
 refine WL.nil<|WC.ret ?_
 replace he:=(he.t ((e3.t e4).t e5)).t e6
 exact cO rfl hb2 bR ⟨_,_,_,_,_,_,rfl,by rw[xY h h1 h3',hf0];exact lc 19 0 t0,he.k fun k hk _=>hk⟩
theorem B3{k:Int}{ks:List V}{o:Int}(hks:∀x∈ks,dU x):dU (.mk k n t ks o d):=by
 rcases Decidable.em (k=20)with h|h
 ·exact vp hks h
 ·rcases Decidable.em (k=23)with h1|h1
  ·rcases Decidable.em (ks.length=1)with h2|h2
   ·rcases Decidable.em ((bA ks 0).kind=20)with h3|h3
    ·exact vo h1 h2 h3
    ·exact tA hks h1 h2 h3
   ·exact vn hks h1 h2
  ·rcases Decidable.em (k=21)with h2|h2
   ·rcases Decidable.em (d.length=1)with h3|h3
    ·exact tB hks h2 h3
    ·exact tC hks h2 h3
   ·exact rJ hks h h1 h2
mutual
theorem zZ:∀x:V,dU x
 | .mk k n t ks o d=>B3 (wE ks)
theorem wE:∀l:List V,∀x∈l,dU x
 |[],x,hx=>by cases hx
 |a::r,x,hx=>by
  rcases List.mem_cons.1 hx with e|hx
  ·exact e▸zZ a
  ·exact wE r x hx
end
end Go.Proofs.LL
