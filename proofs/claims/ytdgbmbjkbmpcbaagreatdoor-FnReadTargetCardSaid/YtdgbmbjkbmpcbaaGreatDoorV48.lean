/- Own laws of frames, operations and loops, and contracts of functions of the program. Conditions: those that each theorem states. -/
import Derived.Test.YtdgbmbjkbmpcbaaGreatDoorV47
set_option linter.all false
set_option maxRecDepth 20000
namespace Go.Proofs.LL
open Go Go.Proofs Go.RowKit
set_option maxHeartbeats 4000000
attribute [local irreducible] RunOp WL WC WDL WT WX
theorem fc{A:Prop}(h:A:=by
 replace hb1:=hb1.mono (e6.then e7)
 replace hb2:=hb2.mono (e6.then e7)
 replace hB3:=hB3.mono (e6.then e7)
 replace hO:=hO.mono (e6.then e7)
 replace hV:=hV.mono (e6.then e7)
 replace hA1:=hA1.mono (e6.then e7)
 replace hR1:=hR1.mono (e6.then e7)
 refine WC.regionDL 7 (tt [0,1,2]++ff [3,4,5]++tt [6]++ff [7]) (Evo (fun b=>b<N1∨b=wi1.heap.size) _) mixed (by kernel_rfl) (Evo.drew _) ?_
 have nd1w7:w7.drew.heap.size=w7.heap.size:=rfl
 refine jE 1 rfl<|dl rfl hB3 rfl ?_
 refine WD.q rfl (fun _ hS=>r_loadAgg Fo.h rfl hS hb6.at (hn:=by first|rfl|assumption)) ?_
 refine LL.cd rfl (hks _ (ak qi) _ _ _ (by have:=an (ak qi);omega) (hR1.mono (Ext.drew _))) ?_
 rintro v8 w8 ⟨y0,y1,y2,y3,y4,y5,rfl,hU,e8⟩
 have q1y:=hU.one
 have hZU:=hU.weaken (B:=fun b=>(A b∧b<w.heap.size∨N1≤b)∧sv.ownBlock≠some b) (fun b h=>rU h (by omega) (fun k hk=>qbel.2 k (by omega)) (fun k hk=>by have:=qlt k hk;omega))
 have ns8:=e8.size
 refine⟨((Evo.drew _).then e8),?_⟩
 replace he:=((he.then (e6.then e7)).then (Ext.drew _)).then e8
 have hs9:=he.size
 replace hb1:=(hb1.mono (Ext.drew _)).mono e8
 have hx9b1:=hb1.lt
 replace hb2:=(hb2.mono (Ext.drew _)).mono e8
 have hx9b2:=hb2.lt
 replace hb6:=(hb6.mono (Ext.drew _)).mono e8
 have hx9b6:=hb6.lt
 refine WD.l rfl rfl (ll [_]) ?_
 rintro _ w9 ⟨rfl,hb9,e9⟩
 have ns9:=e9.size
 refine⟨(((Evo.drew _).then e8).then e9),?_⟩
 refine WD.l rfl rfl (ke (fun b=>b<N1∨b=wi1.heap.size) (fun k hk=>by rcases hk with hk|hk;exact qbel.2 k hk;exact hk▸qbel.1) Fo.h rfl rfl (((hO.mono (Ext.drew _)).mono e8).mono e9) (((hV.mono (Ext.drew _)).mono e8).mono e9) (aa.one (hZU.mono e9)) (Src.at Fb.h hb9.at rfl q1y) (by omega) (by simp only[maxLen];omega) (by omega)) ?_
 rintro v10 w10 ⟨hO,hV,e10,e10s⟩
 obtain⟨q10,c10,hq10,_,_⟩:=hO.form
 subst hq10
 have ns10:=e10.size
 refine⟨((((Evo.drew _).then e8).then e9).then e10s),?_⟩
 refine jE 1 rfl ?_
 replace hB3:=(((hB3.mono (Ext.drew _)).mono e8).mono e9).mono e10
 refine WD.l0L rfl rfl (lst rfl rfl hB3) ?_
 rintro _ w11 ⟨hB3,e11,hz11⟩
 have ns11:=e11.size
 refine WT.nil<|jA 1 rfl<|ai rfl rfl rfl<|jC 2 rfl ?_
 replace hV:=hV.mono e11
 rw[← eo qi]at hV
 replace hO:=hO.mono e11
 exact⟨(i+1),sb,sb,⟨⟨_,_,hB3,hO,hV⟩,qi,(((((((hE.then (e6.then e7)).then (Ext.drew _)).then e8).then e9).then e10).then e11))⟩,(by show ks.length-(i+1)<ks.length-i;omega)⟩):A:=h
theorem bz(x:V):∀l:List V,dropNulls (l++[x])=if x.kind=0 then dropNulls l else l++[x]
 |[]=>by simp[dropNulls]
 |a::r=>by
  have ih:=bz x r
  by_cases h:x.kind=0
  ·rw[if_pos h]at ih⊢;rw[List.cons_append,dropNulls,ih,dropNulls]
  ·rw[if_neg h]at ih⊢;rw[List.cons_append,dropNulls,ih];cases r<;>rfl
theorem fA{x:V}(l:List V)(h:x.kind=0):dropNulls (l++[x])=dropNulls l:=by rw[bz,if_pos h]
theorem fB{x:V}(l:List V)(h:x.kind≠0):dropNulls (l++[x])=l++[x]:=by rw[bz,if_neg h]
theorem k6{ks:List V}(h:0<ks.length):ks.head?.map V.kind=some (aq ks 0).kind:=by
 cases ks with
 |nil=>simp at h
 |cons a r=>rfl
theorem Own.slx{A R:Nat→Prop}{w:World}{B e n c m:Nat}{p:Option Addr}{cs:List Value}{ys:List V}(hO:Own B e 6 w (.slice p n c) n cs)(hV:aa R w ys cs)(hl:ys.length=n)(hm:m≤n)(hR:∀b,R b→A b)(hA:∀b,B≤b→b<w.heap.size→A b):aD A w (ys.take m).length (.slice p m c) (aa A w (ys.take m)):=by
 have ql:(ys.take m).length=m:=by rw[List.length_take];omega
 obtain⟨p',c',e1,e2,e3⟩:=hO.form
 simp only[Value.slice.injEq,true_and]at e1
 obtain⟨rfl,rfl⟩:=e1
 refine⟨p,c,cs.take (m * 6),by rw[ql],by omega,(hV.take m).weaken hR,?_⟩
 rcases Nat.eq_zero_or_pos m with h0|h0
 ·exact .inl (by omega)
 ·obtain⟨g,q1,q2,q3,q4⟩:=e3 (by omega)
  exact .inr ⟨g,0,q1,hA g q2 q3,q4.takeL _⟩
theorem ke{P:Program}{ρ:Fr}{ty:TypeId}{s x:Operand}{w:World}{R:Nat→Prop}(C:Nat→Prop){B t tx n m bs:Nat}{zv v u:Value}{ys ys':List V}{cs news:List Value}(hC:∀k,C k→v.ownBlock≠some k)(ht:slZ P t=some (87,6,bs,zv))(hs:ov ρ s=some v)(hx:ov ρ x=some u)(hown:Own B 87 6 w v n cs)(hV:aa (fun b=>R b∧v.ownBlock≠some b) w ys cs)(hy:aa (fun b=>R b∧v.ownBlock≠some b) w ys' news)(hsrc:Src P 6 tx u m news w)(hB:B≤w.heap.size)(h63:n+m≤maxLen)(hbytes:(n+m) * bs≤140737488355328):
  LoudOp P (.call ⟨.builtin .append, #[s,x], #[t,tx]⟩) ty ρ w (fun v' w'=>Own B 87 6 w' v' (n+m) (cs++news)∧aa (fun b=>R b∧v'.ownBlock≠some b) w' (ys++ys') (cs++news)∧Evo (fun k=>k<B) w w'∧Evo C w w'):=
 (l_appO ht hs hx hown hsrc hB h63 hbytes).imp fun v' w' ⟨h1,h2,h3⟩=>⟨h1,aa.pushG hV hy h2 h3,hown.evo (w0:=w) h2,h2.weaken fun k _ hk=>hC k hk⟩
def aR(x:V):Prop:=∀(A:Nat→Prop) (cx:List Value) (w:World),ah x≤1000000000→ag A w x cx→
 Does TP 178 [.agg cx.toArray] w fun r w'=>∃a b c d e f,r= .agg #[a,b,c,d,e,f]∧ag (fun b=>A b∧b<w.heap.size∨w.heap.size≤b) w' (usual x) [a,b,c,d,e,f]∧Ext w w'
theorem eo{ks:List V}{i:Nat}(hi:i<ks.length):usualL (ks.take (i+1))=usualL (ks.take i)++[usual (aq ks i)]:=by
 rw[usualL_eq,usualL_eq,← List.take_append_getElem hi,List.map_append,az hi];rfl
theorem ag.mkKD{A:Nat→Prop}{w:World}{k o:Int}{n:Nat}{t:List UInt8}{ks d:List V}{sk sd:Value}(h:aD A w ks.length sk (aa A w ks))(h':aD A w d.length sd (aa A w d)):ag A w (.mk k n t ks o d) [.int .i64 k,.int .u64 (n:Int),str t,sk,.int .i64 o,sd]:=by
 rw[ag];exact⟨_,_,rfl,h,h'⟩
theorem jz{k:Int}{n:Nat}{t:List UInt8}{ks:List V}{o:Int}{d:List V}(h:k=20):usual (.mk k n t ks o d)= .mk 19 0 t (usualL ks) 0 d:=by
 rw[usual,if_neg (by omega),if_pos h]
theorem fQ{k:Int}{n:Nat}{t:List UInt8}{ks:List V}{o:Int}{d:List V}(h:k=21)(h1:d.length=1):usual (.mk k n t ks o d)= .mk k n t (dropNulls (usualL ks)) o d:=by
 rw[usual,if_neg (by omega),if_neg (by omega),if_pos ⟨h,h1⟩]
theorem fJ{k:Int}{n:Nat}{t:List UInt8}{ks:List V}{o:Int}{d:List V}(h:k=23)(h1:ks.length=1)(h2:(aq ks 0).kind=20):usual (.mk k n t ks o d)=pv 19 0 (aq ks 0).text:=by
 match ks,h1 with
 |[a],_=>rw[usual,if_pos ⟨h,rfl,congrArg some h2⟩];rfl
theorem cB{k:Int}{n:Nat}{t:List UInt8}{ks:List V}{o:Int}{d:List V}(h:k≠20)(h1:¬(k=23∧ks.length=1∧(ks.head?.map V.kind)=some 20))(h2:¬(k=21∧d.length=1)):usual (.mk k n t ks o d)= .mk k n t (usualL ks) o d:=by
 rw[usual,if_neg h1,if_neg h,if_neg h2]
theorem rU{A:Nat→Prop}{N0 N1 M b:Nat}(h:(A b∧b<N0)∧b<N1∨N1≤b)(h1:M≤N1){s:Value}(q1:∀k,k<N0→s.ownBlock≠some k)(q2:∀k,s.ownBlock=some k→k<N1):(A b∧b<N0∨M≤b)∧s.ownBlock≠some b:=by
 rcases h with⟨h,_⟩|h
 ·exact⟨.inl h,q1 b h.2⟩
 ·exact⟨.inr (by omega),fun e=>by have:=q2 b e;omega⟩
theorem jl{k:Int}{n:Nat}{t:List UInt8}{ks:List V}{o:Int}{d:List V}(hks:∀x∈ks,aR x)(h:k=20):aR (.mk k n t ks o d):=by
 intro A cx w hv hx
 rw[ah]at hv
 have hkl:=ae ks
 replace hx:=hx.weakenW (B:=fun b=>A b∧b<w.heap.size) (fun b hb h=>⟨h,hb⟩)
 obtain⟨pk,ck,pd,cd,rfl,_,_,hK,hD⟩:=hx.openV
 refine doR Tryz.func178 ?_
 have he:Evo (fun b=>b<w.heap.size) w w:=Evo.refl w
 refine jA 2 rfl ?_
 have hs1:=he.size
 refine bx rfl ?_
 rintro _ w1 ⟨rfl,hb1,e1⟩
 have nx1:=hb1.lt
 have ns1:=e1.size
 replace he:=he.then e1
 have hs2:=he.size
 have hx2b1:=hb1.lt
 refine al ?_
 rintro _ w2 ⟨rfl,hb2,e2⟩
 have nx2:=hb2.lt
 have ns2:=e2.size
 refine jD 3 rfl ?_
 replace hb1:=hb1.mono e2
 refine la rfl hb1 ?_
 replace he:=he.then e2
 have hs3:=he.size
 have hx3b1:=hb1.lt
 have hx3b2:=hb2.lt
 refine al ?_
 rintro _ w3 ⟨rfl,hb3,e3⟩
 have nx3:=hb3.lt
 have ns3:=e3.size
 refine WL.l0 (lsw rfl rfl hb3) ?_
 rintro _ w4 ⟨hb3,e4,hz4⟩
 have ns4:=e4.size
 refine jD 4 rfl ?_
 refine WL.l0 (lst rfl rfl hb3) ?_
 rintro _ w5 ⟨hb3,e5,hz5⟩
 have ns5:=e5.size
 refine jD 5 rfl ?_
 replace hb1:=hb1.mono ((e3.then e4).then e5)
 refine ld rfl hb1 rfl<|WL.q rfl (r_cmp (r_eql rfl rfl) (beqT (h)))<|jD 4 rfl<|ld rfl hb1 rfl<|jC 1 rfl<|ld rfl hb1 rfl<|WL.q rfl (r_bld (cs:=[_,_,_,_,_,_]) Fo.h rfl rfl) ?_
 refine WL.l0 (lsw rfl rfl hb3) ?_
 rintro _ w6 ⟨hb3,e6,hz6⟩
 have ns6:=e6.size
 refine jD 5 rfl ?_
 replace hb1:=hb1.mono e6
 refine ld rfl hb1 rfl ?_
 refine WL.q rfl (r_cmp (r_eql rfl rfl) (beqF (by(omega)))) ?_
 refine jD 17 rfl<|jA 4 rfl<|ld rfl hb1 rfl<|jD 4 rfl ?_
 obtain⟨N1,eN1⟩:∃M,M=w6.heap.size:=⟨_,rfl⟩
 replace hK:=((hK.mono e1).mono e2).mono (((e3.then e4).then e5).then e6)
 replace hD:=((hD.mono e1).mono e2).mono (((e3.then e4).then e5).then e6)
 replace hb2:=hb2.mono (((e3.then e4).then e5).then e6)
 replace he:=he.then (((e3.then e4).then e5).then e6)
 refine WC.loop2 (ι:=Nat) [(1,_),(2,_),(3,_),(40,_),(41,_)] (fun i=>[(42,.int .i64 (i:Int))]) (fun i wi=>(∃sv cs,Blk wi w2.heap.size [.int .i64 19,.int .u64 ((0:Nat):Int),str t,sv,.int .i64 0,.slice pd d.length cd]∧Own N1 87 6 wi sv i cs∧aa (fun b=>(A b∧b<w.heap.size∨N1≤b)∧sv.ownBlock≠some b) wi (usualL (ks.take i)) cs)∧i≤ks.length∧Evo (fun b=>b<N1∧b≠w2.heap.size) w6 wi) (fun i=>ks.length-i) 0 sb sb (⟨⟨_,[],hb3,Own.nil _ _ _ _,by rw[List.take_zero,usualL,aa]⟩,Nat.zero_le _,Evo.refl _⟩) ?_
 intro i wi1 hh;obtain⟨⟨sv,cs,hB3,hO,hV⟩,ni,hE⟩:=hh
 have nwi:=hE.size
 rcases Nat.lt_or_ge i ks.length with qi|qi
 replace hK:=hK.mono hE
 ·obtain⟨b,o1,c1,rfl,_,hA1,l1,hR1⟩:=hK.kid qi
  obtain⟨x0,x1,x2,x3,x4,x5,rfl⟩:=hR1.six
  have q1:=hR1.one
  have qbel:=hO.below
  have qlt:=hO.lt
  refine jA 2 rfl<|lT rfl rfl<|jD 8 rfl<|ix rfl rfl rfl<|WL.q rfl (r_loadAgg Fo.h rfl (Ext.refl _) hA1 (hn:=rfl)) ?_
  replace he:=he.then hE
  have hs7:=he.size
  replace hb1:=hb1.mono hE
  have hx7b1:=hb1.lt
  replace hb2:=hb2.mono hE
  have hx7b2:=hb2.lt
  refine al ?_
  rintro _ w7 ⟨rfl,hb7,e7⟩
  have nx7:=hb7.lt
  have ns7:=e7.size
  refine WL.l0 (lsw rfl rfl hb7) ?_
  rintro _ w8 ⟨hb7,e8,hz8⟩
  have ns8:=e8.size
  refine WL.nil ?_
  replace hK:=hK.mono (e7.then e8)
  replace hD:=(hD.mono hE).mono (e7.then e8)
  replace hb1:=hb1.mono (e7.then e8)
  replace hb2:=hb2.mono (e7.then e8)
  replace hB3:=hB3.mono (e7.then e8)
  replace hO:=hO.mono (e7.then e8)
  replace hV:=hV.mono (e7.then e8)
  replace hA1:=hA1.mono (e7.then e8)
  replace hR1:=hR1.mono (e7.then e8)
  refine WC.regionDL 7 (tt [0,1,2]++ff [3,4,5]++tt [6]++ff [7]) (Evo (fun b=>b<N1∨b=wi1.heap.size) _) mixed (by kernel_rfl) (Evo.drew _) ?_
  have nd1w8:w8.drew.heap.size=w8.heap.size:=rfl
  refine jE 1 rfl<|dl rfl hB3 rfl ?_
  refine WD.q rfl (fun _ hS=>r_loadAgg Fo.h rfl hS hb7.at (hn:=by first|rfl|assumption)) ?_
  refine LL.cd rfl (hks _ (ak qi) _ _ _ (by have:=an (ak qi);omega) (hR1.mono (Ext.drew _))) ?_
  rintro v9 w9 ⟨y0,y1,y2,y3,y4,y5,rfl,hU,e9⟩
  have q1y:=hU.one
  have hZU:=hU.weaken (B:=fun b=>(A b∧b<w.heap.size∨N1≤b)∧sv.ownBlock≠some b) (fun b h=>rU h (by omega) (fun k hk=>qbel.2 k (by omega)) (fun k hk=>by have:=qlt k hk;omega))
  have ns9:=e9.size
  refine⟨((Evo.drew _).then e9),?_⟩
  replace he:=((he.then (e7.then e8)).then (Ext.drew _)).then e9
  have hs10:=he.size
  replace hb1:=(hb1.mono (Ext.drew _)).mono e9
  have hx10b1:=hb1.lt
  replace hb2:=(hb2.mono (Ext.drew _)).mono e9
  have hx10b2:=hb2.lt
  replace hb7:=(hb7.mono (Ext.drew _)).mono e9
  have hx10b7:=hb7.lt
  refine WD.l rfl rfl (ll [_]) ?_
  rintro _ w10 ⟨rfl,hb10,e10⟩
  have ns10:=e10.size
  refine⟨(((Evo.drew _).then e9).then e10),?_⟩
  refine WD.l rfl rfl (ke (fun b=>b<N1∨b=wi1.heap.size) (fun k hk=>by rcases hk with hk|hk;exact qbel.2 k hk;exact hk▸qbel.1) Fo.h rfl rfl (((hO.mono (Ext.drew _)).mono e9).mono e10) (((hV.mono (Ext.drew _)).mono e9).mono e10) (aa.one (hZU.mono e10)) (Src.at Fb.h hb10.at rfl q1y) (by omega) (by simp only[maxLen];omega) (by omega)) ?_
  rintro v11 w11 ⟨hO,hV,e11,e11s⟩
  obtain⟨q11,c11,hq11,_,_⟩:=hO.form
  subst hq11
  have ns11:=e11.size
  refine⟨((((Evo.drew _).then e9).then e10).then e11s),?_⟩
  refine jE 1 rfl ?_
  replace hB3:=(((hB3.mono (Ext.drew _)).mono e9).mono e10).mono e11
  refine WD.l0L rfl rfl (lst rfl rfl hB3) ?_
  rintro _ w12 ⟨hB3,e12,hz12⟩
  have ns12:=e12.size
  refine WT.nil<|jA 1 rfl<|ai rfl rfl rfl<|jC 2 rfl ?_
  replace hV:=hV.mono e12
  rw[← eo qi]at hV
  replace hO:=hO.mono e12
  exact⟨(i+1),sb,sb,⟨⟨_,_,hB3,hO,hV⟩,qi,(((((((hE.then (e7.then e8)).then (Ext.drew _)).then e9).then e10).then e11).then e12))⟩,(by show ks.length-(i+1)<ks.length-i;omega)⟩
 ·have hil:i=ks.length:=by omega
  rw[hil,List.take_length]at hV
  subst hil
  obtain⟨q0,c0,hq0,_,_⟩:=hO.form
  subst hq0
  have qul:=ao ks
  refine jA 2 rfl<|lF rfl rfl<|jD 3 rfl<|WC.exit<|jA 4 rfl ?_
  replace hb1:=hb1.mono hE
  refine ld rfl hb1 rfl ?_
  refine WL.q rfl (r_cmp (r_eql rfl rfl) (beqF (by(omega)))) ?_
  refine jD 9 rfl<|jA 2 rfl<|la rfl hB3 ?_
  replace hb2:=hb2.mono hE
  refine WL.l0 (lsw rfl rfl hb2) ?_
  rintro _ w7 ⟨hb2,e7,hz7⟩
  have ns7:=e7.size
  refine WL.nil<|WC.ret ?_
  replace hO:=hO.mono e7
  replace hV:=hV.mono e7
  have qK:aD (fun b=>A b∧b<w.heap.size∨w.heap.size≤b) w7 (usualL ks).length (.slice q0 ks.length c0) (aa (fun b=>A b∧b<w.heap.size∨w.heap.size≤b) w7 (usualL ks)):=by have h:=Own.slx (A:=fun b=>A b∧b<w.heap.size∨w.heap.size≤b) (m:=ks.length) hO hV qul (Nat.le_refl _) (fun b h=>by rcases h.1 with h|h;exact .inl h;exact .inr (by omega)) (fun b hb _=> .inr (by omega));rw[List.take_of_length_le (by omega)]at h;exact h
  replace hD:=(hD.mono hE).mono e7
  have qR:=ag.mkKD (k:=19) (n:=0) (t:=t) (o:=0) qK (hD.low (fun b h=> .inl h))
  replace he:=(he.then hE).then e7
  exact finC rfl hb2 agg_87 ⟨_,_,_,_,_,_,rfl,by rw[jz h];exact qR,he.weaken fun k hk _=>hk⟩
theorem gF{k:Int}{n:Nat}{t:List UInt8}{ks:List V}{o:Int}{d:List V}(hks:∀x∈ks,aR x)(h:k≠20)(h1:k≠23)(h2:k≠21):aR (.mk k n t ks o d):=by
 intro A cx w hv hx
 rw[ah]at hv
 have hkl:=ae ks
 replace hx:=hx.weakenW (B:=fun b=>A b∧b<w.heap.size) (fun b hb h=>⟨h,hb⟩)
 obtain⟨pk,ck,pd,cd,rfl,_,_,hK,hD⟩:=hx.openV
 refine doR Tryz.func178 ?_
 have he:Evo (fun b=>b<w.heap.size) w w:=Evo.refl w
 refine jA 2 rfl ?_
 have hs1:=he.size
 refine bx rfl ?_
 rintro _ w1 ⟨rfl,hb1,e1⟩
 have nx1:=hb1.lt
 have ns1:=e1.size
 replace he:=he.then e1
 have hs2:=he.size
 have hx2b1:=hb1.lt
 refine al ?_
 rintro _ w2 ⟨rfl,hb2,e2⟩
 have nx2:=hb2.lt
 have ns2:=e2.size
 refine jD 3 rfl ?_
 replace hb1:=hb1.mono e2
 refine la rfl hb1 ?_
 replace he:=he.then e2
 have hs3:=he.size
 have hx3b1:=hb1.lt
 have hx3b2:=hb2.lt
 refine al ?_
 rintro _ w3 ⟨rfl,hb3,e3⟩
 have nx3:=hb3.lt
 have ns3:=e3.size
 refine WL.l0 (lsw rfl rfl hb3) ?_
 rintro _ w4 ⟨hb3,e4,hz4⟩
 have ns4:=e4.size
 refine jD 4 rfl ?_
 refine WL.l0 (lst rfl rfl hb3) ?_
 rintro _ w5 ⟨hb3,e5,hz5⟩
 have ns5:=e5.size
 refine jD 5 rfl ?_
 replace hb1:=hb1.mono ((e3.then e4).then e5)
 refine ld rfl hb1 rfl<|WL.q rfl (r_cmp (r_eql rfl rfl) (beqF (h)))<|jD 3 rfl<|jA 4 rfl<|ld rfl hb1 rfl<|WL.q rfl (r_cmp (r_eql rfl rfl) (beqF (h1)))<|jD 17 rfl<|jA 4 rfl<|ld rfl hb1 rfl<|jD 4 rfl ?_
 obtain⟨N1,eN1⟩:∃M,M=w5.heap.size:=⟨_,rfl⟩
 replace hK:=((hK.mono e1).mono e2).mono ((e3.then e4).then e5)
 replace hD:=((hD.mono e1).mono e2).mono ((e3.then e4).then e5)
 replace hb2:=hb2.mono ((e3.then e4).then e5)
 replace he:=he.then ((e3.then e4).then e5)
 refine WC.loop2 (ι:=Nat) [(1,_),(2,_),(3,_),(40,_),(41,_)] (fun i=>[(42,.int .i64 (i:Int))]) (fun i wi=>(∃sv cs,Blk wi w2.heap.size [.int .i64 k,.int .u64 (n:Int),str t,sv,.int .i64 o,.slice pd d.length cd]∧Own N1 87 6 wi sv i cs∧aa (fun b=>(A b∧b<w.heap.size∨N1≤b)∧sv.ownBlock≠some b) wi (usualL (ks.take i)) cs)∧i≤ks.length∧Evo (fun b=>b<N1∧b≠w2.heap.size) w5 wi) (fun i=>ks.length-i) 0 sb sb (⟨⟨_,[],hb3,Own.nil _ _ _ _,by rw[List.take_zero,usualL,aa]⟩,Nat.zero_le _,Evo.refl _⟩) ?_
 intro i wi1 hh;obtain⟨⟨sv,cs,hB3,hO,hV⟩,ni,hE⟩:=hh
 have nwi:=hE.size
 rcases Nat.lt_or_ge i ks.length with qi|qi
 replace hK:=hK.mono hE
 ·obtain⟨b,o1,c1,rfl,_,hA1,l1,hR1⟩:=hK.kid qi
  obtain⟨x0,x1,x2,x3,x4,x5,rfl⟩:=hR1.six
  have q1:=hR1.one
  have qbel:=hO.below
  have qlt:=hO.lt
  refine jA 2 rfl<|lT rfl rfl<|jD 8 rfl<|ix rfl rfl rfl<|WL.q rfl (r_loadAgg Fo.h rfl (Ext.refl _) hA1 (hn:=rfl)) ?_
  replace he:=he.then hE
  have hs6:=he.size
  replace hb1:=hb1.mono hE
  have hx6b1:=hb1.lt
  replace hb2:=hb2.mono hE
  have hx6b2:=hb2.lt
  refine al ?_
  rintro _ w6 ⟨rfl,hb6,e6⟩
  have nx6:=hb6.lt
  have ns6:=e6.size
  refine WL.l0 (lsw rfl rfl hb6) ?_
  rintro _ w7 ⟨hb6,e7,hz7⟩
  have ns7:=e7.size
  refine WL.nil ?_
  replace hK:=hK.mono (e6.then e7)
  replace hD:=(hD.mono hE).mono (e6.then e7)
  exact fc
 ·have hil:i=ks.length:=by omega
  rw[hil,List.take_length]at hV
  subst hil
  obtain⟨q0,c0,hq0,_,_⟩:=hO.form
  subst hq0
  have qul:=ao ks
  refine jA 2 rfl<|lF rfl rfl<|jD 3 rfl<|WC.exit<|jA 4 rfl ?_
  replace hb1:=hb1.mono hE
  refine ld rfl hb1 rfl<|WL.q rfl (r_cmp (r_eql rfl rfl) (beqF (h2)))<|jD 9 rfl<|jA 2 rfl<|la rfl hB3 ?_
  replace hb2:=hb2.mono hE
  refine WL.l0 (lsw rfl rfl hb2) ?_
  rintro _ w6 ⟨hb2,e6,hz6⟩
  have ns6:=e6.size
  refine WL.nil<|WC.ret ?_
  replace hO:=hO.mono e6
  replace hV:=hV.mono e6
  have qK:aD (fun b=>A b∧b<w.heap.size∨w.heap.size≤b) w6 (usualL ks).length (.slice q0 ks.length c0) (aa (fun b=>A b∧b<w.heap.size∨w.heap.size≤b) w6 (usualL ks)):=by have h:=Own.slx (A:=fun b=>A b∧b<w.heap.size∨w.heap.size≤b) (m:=ks.length) hO hV qul (Nat.le_refl _) (fun b h=>by rcases h.1 with h|h;exact .inl h;exact .inr (by omega)) (fun b hb _=> .inr (by omega));rw[List.take_of_length_le (by omega)]at h;exact h
  replace hD:=(hD.mono hE).mono e6
  have qR:=ag.mkKD (k:=k) (n:=n) (t:=t) (o:=o) qK (hD.low (fun b h=> .inl h))
  replace he:=(he.then hE).then e6
  exact finC rfl hb2 agg_87 ⟨_,_,_,_,_,_,rfl,by rw[cB h (fun e=>absurd e.1 h1) (fun e=>absurd e.1 h2)];exact qR,he.weaken fun k hk _=>hk⟩
theorem iG{k:Int}{n:Nat}{t:List UInt8}{ks:List V}{o:Int}{d:List V}(hks:∀x∈ks,aR x)(h2:k=21)(h1:d.length≠1):aR (.mk k n t ks o d):=by
 intro A cx w hv hx
 rw[ah]at hv
 have hkl:=ae ks
 replace hx:=hx.weakenW (B:=fun b=>A b∧b<w.heap.size) (fun b hb h=>⟨h,hb⟩)
 obtain⟨pk,ck,pd,cd,rfl,_,_,hK,hD⟩:=hx.openV
 refine doR Tryz.func178 ?_
 have he:Evo (fun b=>b<w.heap.size) w w:=Evo.refl w
 refine jA 2 rfl ?_
 have hs1:=he.size
 refine bx rfl ?_
 rintro _ w1 ⟨rfl,hb1,e1⟩
 have nx1:=hb1.lt
 have ns1:=e1.size
 replace he:=he.then e1
 have hs2:=he.size
 have hx2b1:=hb1.lt
 refine al ?_
 rintro _ w2 ⟨rfl,hb2,e2⟩
 have nx2:=hb2.lt
 have ns2:=e2.size
 refine jD 3 rfl ?_
 replace hb1:=hb1.mono e2
 refine la rfl hb1 ?_
 replace he:=he.then e2
 have hs3:=he.size
 have hx3b1:=hb1.lt
 have hx3b2:=hb2.lt
 refine al ?_
 rintro _ w3 ⟨rfl,hb3,e3⟩
 have nx3:=hb3.lt
 have ns3:=e3.size
 refine WL.l0 (lsw rfl rfl hb3) ?_
 rintro _ w4 ⟨hb3,e4,hz4⟩
 have ns4:=e4.size
 refine jD 4 rfl ?_
 refine WL.l0 (lst rfl rfl hb3) ?_
 rintro _ w5 ⟨hb3,e5,hz5⟩
 have ns5:=e5.size
 refine jD 5 rfl ?_
 replace hb1:=hb1.mono ((e3.then e4).then e5)
 refine ld rfl hb1 rfl ?_
 refine WL.q rfl (r_cmp (r_eql rfl rfl) (beqF (by(omega)))) ?_
 refine jD 3 rfl<|jA 4 rfl<|ld rfl hb1 rfl ?_
 refine WL.q rfl (r_cmp (r_eql rfl rfl) (beqF (by(omega)))) ?_
 refine jD 17 rfl<|jA 4 rfl<|ld rfl hb1 rfl<|jD 4 rfl ?_
 obtain⟨N1,eN1⟩:∃M,M=w5.heap.size:=⟨_,rfl⟩
 replace hK:=((hK.mono e1).mono e2).mono ((e3.then e4).then e5)
 replace hD:=((hD.mono e1).mono e2).mono ((e3.then e4).then e5)
 replace hb2:=hb2.mono ((e3.then e4).then e5)
 replace he:=he.then ((e3.then e4).then e5)
 refine WC.loop2 (ι:=Nat) [(1,_),(2,_),(3,_),(40,_),(41,_)] (fun i=>[(42,.int .i64 (i:Int))]) (fun i wi=>(∃sv cs,Blk wi w2.heap.size [.int .i64 k,.int .u64 (n:Int),str t,sv,.int .i64 o,.slice pd d.length cd]∧Own N1 87 6 wi sv i cs∧aa (fun b=>(A b∧b<w.heap.size∨N1≤b)∧sv.ownBlock≠some b) wi (usualL (ks.take i)) cs)∧i≤ks.length∧Evo (fun b=>b<N1∧b≠w2.heap.size) w5 wi) (fun i=>ks.length-i) 0 sb sb (⟨⟨_,[],hb3,Own.nil _ _ _ _,by rw[List.take_zero,usualL,aa]⟩,Nat.zero_le _,Evo.refl _⟩) ?_
 intro i wi1 hh;obtain⟨⟨sv,cs,hB3,hO,hV⟩,ni,hE⟩:=hh
 have nwi:=hE.size
 rcases Nat.lt_or_ge i ks.length with qi|qi
 replace hK:=hK.mono hE
 ·obtain⟨b,o1,c1,rfl,_,hA1,l1,hR1⟩:=hK.kid qi
  obtain⟨x0,x1,x2,x3,x4,x5,rfl⟩:=hR1.six
  have q1:=hR1.one
  have qbel:=hO.below
  have qlt:=hO.lt
  refine jA 2 rfl<|lT rfl rfl<|jD 8 rfl<|ix rfl rfl rfl<|WL.q rfl (r_loadAgg Fo.h rfl (Ext.refl _) hA1 (hn:=rfl)) ?_
  replace he:=he.then hE
  have hs6:=he.size
  replace hb1:=hb1.mono hE
  have hx6b1:=hb1.lt
  replace hb2:=hb2.mono hE
  have hx6b2:=hb2.lt
  refine al ?_
  rintro _ w6 ⟨rfl,hb6,e6⟩
  have nx6:=hb6.lt
  have ns6:=e6.size
  refine WL.l0 (lsw rfl rfl hb6) ?_
  rintro _ w7 ⟨hb6,e7,hz7⟩
  have ns7:=e7.size
  refine WL.nil ?_
  replace hK:=hK.mono (e6.then e7)
  replace hD:=(hD.mono hE).mono (e6.then e7)
  exact fc
 ·have hil:i=ks.length:=by omega
  rw[hil,List.take_length]at hV
  subst hil
  obtain⟨q0,c0,hq0,_,_⟩:=hO.form
  subst hq0
  have qul:=ao ks
  refine jA 2 rfl<|lF rfl rfl<|jD 3 rfl<|WC.exit<|jA 4 rfl ?_
  replace hb1:=hb1.mono hE
  refine ld rfl hb1 rfl<|WL.q rfl (r_cmp (r_eql rfl rfl) (beqT (h2)))<|jC 2 rfl<|lg rfl rfl rfl hb1 rfl<|jC 1 rfl ?_
  refine WL.qg rfl rfl rfl rfl (r_cmp (r_eql rfl rfl) (beqF (by(omega)))) ?_
  refine jD 4 rfl<|jA 2 rfl<|la rfl hB3 ?_
  replace hb2:=hb2.mono hE
  refine WL.l0 (lsw rfl rfl hb2) ?_
  rintro _ w6 ⟨hb2,e6,hz6⟩
  have ns6:=e6.size
  refine WL.nil<|WC.ret ?_
  replace hO:=hO.mono e6
  replace hV:=hV.mono e6
  have qK:aD (fun b=>A b∧b<w.heap.size∨w.heap.size≤b) w6 (usualL ks).length (.slice q0 ks.length c0) (aa (fun b=>A b∧b<w.heap.size∨w.heap.size≤b) w6 (usualL ks)):=by have h:=Own.slx (A:=fun b=>A b∧b<w.heap.size∨w.heap.size≤b) (m:=ks.length) hO hV qul (Nat.le_refl _) (fun b h=>by rcases h.1 with h|h;exact .inl h;exact .inr (by omega)) (fun b hb _=> .inr (by omega));rw[List.take_of_length_le (by omega)]at h;exact h
  replace hD:=(hD.mono hE).mono e6
  have qR:=ag.mkKD (k:=k) (n:=n) (t:=t) (o:=o) qK (hD.low (fun b h=> .inl h))
  replace he:=(he.then hE).then e6
  exact finC rfl hb2 agg_87 ⟨_,_,_,_,_,_,rfl,by rw[cB (by omega) (fun e=>by omega) (fun e=>h1 e.2)];exact qR,he.weaken fun k hk _=>hk⟩
theorem jw{k:Int}{n:Nat}{t:List UInt8}{ks:List V}{o:Int}{d:List V}(hks:∀x∈ks,aR x)(h:k=23)(h1:ks.length≠1):aR (.mk k n t ks o d):=by
 intro A cx w hv hx
 rw[ah]at hv
 have hkl:=ae ks
 replace hx:=hx.weakenW (B:=fun b=>A b∧b<w.heap.size) (fun b hb h=>⟨h,hb⟩)
 obtain⟨pk,ck,pd,cd,rfl,_,_,hK,hD⟩:=hx.openV
 refine doR Tryz.func178 ?_
 have he:Evo (fun b=>b<w.heap.size) w w:=Evo.refl w
 refine jA 2 rfl ?_
 have hs1:=he.size
 refine bx rfl ?_
 rintro _ w1 ⟨rfl,hb1,e1⟩
 have nx1:=hb1.lt
 have ns1:=e1.size
 replace he:=he.then e1
 have hs2:=he.size
 have hx2b1:=hb1.lt
 refine al ?_
 rintro _ w2 ⟨rfl,hb2,e2⟩
 have nx2:=hb2.lt
 have ns2:=e2.size
 refine jD 3 rfl ?_
 replace hb1:=hb1.mono e2
 refine la rfl hb1 ?_
 replace he:=he.then e2
 have hs3:=he.size
 have hx3b1:=hb1.lt
 have hx3b2:=hb2.lt
 refine al ?_
 rintro _ w3 ⟨rfl,hb3,e3⟩
 have nx3:=hb3.lt
 have ns3:=e3.size
 refine WL.l0 (lsw rfl rfl hb3) ?_
 rintro _ w4 ⟨hb3,e4,hz4⟩
 have ns4:=e4.size
 refine jD 4 rfl ?_
 refine WL.l0 (lst rfl rfl hb3) ?_
 rintro _ w5 ⟨hb3,e5,hz5⟩
 have ns5:=e5.size
 refine jD 5 rfl ?_
 replace hb1:=hb1.mono ((e3.then e4).then e5)
 refine ld rfl hb1 rfl ?_
 refine WL.q rfl (r_cmp (r_eql rfl rfl) (beqF (by(omega)))) ?_
 refine jD 3 rfl<|jA 4 rfl<|ld rfl hb1 rfl<|WL.q rfl (r_cmp (r_eql rfl rfl) (beqT (h)))<|jC 2 rfl<|lg rfl rfl rfl hb1 rfl<|jC 1 rfl ?_
 refine WL.qg rfl rfl rfl rfl (r_cmp (r_eql rfl rfl) (beqF (by(omega)))) ?_
 refine jD 12 rfl<|jA 4 rfl<|ld rfl hb1 rfl<|jD 4 rfl ?_
 obtain⟨N1,eN1⟩:∃M,M=w5.heap.size:=⟨_,rfl⟩
 replace hK:=((hK.mono e1).mono e2).mono ((e3.then e4).then e5)
 replace hD:=((hD.mono e1).mono e2).mono ((e3.then e4).then e5)
 replace hb2:=hb2.mono ((e3.then e4).then e5)
 replace he:=he.then ((e3.then e4).then e5)
 refine WC.loop2 (ι:=Nat) [(1,_),(2,_),(3,_),(40,_),(41,_)] (fun i=>[(42,.int .i64 (i:Int))]) (fun i wi=>(∃sv cs,Blk wi w2.heap.size [.int .i64 k,.int .u64 (n:Int),str t,sv,.int .i64 o,.slice pd d.length cd]∧Own N1 87 6 wi sv i cs∧aa (fun b=>(A b∧b<w.heap.size∨N1≤b)∧sv.ownBlock≠some b) wi (usualL (ks.take i)) cs)∧i≤ks.length∧Evo (fun b=>b<N1∧b≠w2.heap.size) w5 wi) (fun i=>ks.length-i) 0 sb sb (⟨⟨_,[],hb3,Own.nil _ _ _ _,by rw[List.take_zero,usualL,aa]⟩,Nat.zero_le _,Evo.refl _⟩) ?_
 intro i wi1 hh;obtain⟨⟨sv,cs,hB3,hO,hV⟩,ni,hE⟩:=hh
 have nwi:=hE.size
 rcases Nat.lt_or_ge i ks.length with qi|qi
 replace hK:=hK.mono hE
 ·obtain⟨b,o1,c1,rfl,_,hA1,l1,hR1⟩:=hK.kid qi
  obtain⟨x0,x1,x2,x3,x4,x5,rfl⟩:=hR1.six
  have q1:=hR1.one
  have qbel:=hO.below
  have qlt:=hO.lt
  refine jA 2 rfl<|lT rfl rfl<|jD 8 rfl<|ix rfl rfl rfl<|WL.q rfl (r_loadAgg Fo.h rfl (Ext.refl _) hA1 (hn:=rfl)) ?_
  replace he:=he.then hE
  have hs6:=he.size
  replace hb1:=hb1.mono hE
  have hx6b1:=hb1.lt
  replace hb2:=hb2.mono hE
  have hx6b2:=hb2.lt
  refine al ?_
  rintro _ w6 ⟨rfl,hb6,e6⟩
  have nx6:=hb6.lt
  have ns6:=e6.size
  refine WL.l0 (lsw rfl rfl hb6) ?_
  rintro _ w7 ⟨hb6,e7,hz7⟩
  have ns7:=e7.size
  refine WL.nil ?_
  replace hK:=hK.mono (e6.then e7)
  replace hD:=(hD.mono hE).mono (e6.then e7)
  exact fc
 ·have hil:i=ks.length:=by omega
  rw[hil,List.take_length]at hV
  subst hil
  obtain⟨q0,c0,hq0,_,_⟩:=hO.form
  subst hq0
  have qul:=ao ks
  refine jA 2 rfl<|lF rfl rfl<|jD 3 rfl<|WC.exit<|jA 4 rfl ?_
  replace hb1:=hb1.mono hE
  refine ld rfl hb1 rfl ?_
  refine WL.q rfl (r_cmp (r_eql rfl rfl) (beqF (by(omega)))) ?_
  refine jD 9 rfl<|jA 2 rfl<|la rfl hB3 ?_
  replace hb2:=hb2.mono hE
  refine WL.l0 (lsw rfl rfl hb2) ?_
  rintro _ w6 ⟨hb2,e6,hz6⟩
  have ns6:=e6.size
  refine WL.nil<|WC.ret ?_
  replace hO:=hO.mono e6
  replace hV:=hV.mono e6
  have qK:aD (fun b=>A b∧b<w.heap.size∨w.heap.size≤b) w6 (usualL ks).length (.slice q0 ks.length c0) (aa (fun b=>A b∧b<w.heap.size∨w.heap.size≤b) w6 (usualL ks)):=by have h:=Own.slx (A:=fun b=>A b∧b<w.heap.size∨w.heap.size≤b) (m:=ks.length) hO hV qul (Nat.le_refl _) (fun b h=>by rcases h.1 with h|h;exact .inl h;exact .inr (by omega)) (fun b hb _=> .inr (by omega));rw[List.take_of_length_le (by omega)]at h;exact h
  replace hD:=(hD.mono hE).mono e6
  have qR:=ag.mkKD (k:=k) (n:=n) (t:=t) (o:=o) qK (hD.low (fun b h=> .inl h))
  replace he:=(he.then hE).then e6
  exact finC rfl hb2 agg_87 ⟨_,_,_,_,_,_,rfl,by rw[cB (by omega) (fun e=>h1 e.2.1) (fun e=>by omega)];exact qR,he.weaken fun k hk _=>hk⟩
theorem gJ{k:Int}{n:Nat}{t:List UInt8}{ks:List V}{o:Int}{d:List V}(hks:∀x∈ks,aR x)(h:k=23)(h1:ks.length=1)(h3:(aq ks 0).kind≠20):aR (.mk k n t ks o d):=by
 intro A cx w hv hx
 rw[ah]at hv
 have hkl:=ae ks
 replace hx:=hx.weakenW (B:=fun b=>A b∧b<w.heap.size) (fun b hb h=>⟨h,hb⟩)
 obtain⟨pk,ck,pd,cd,rfl,_,_,hK,hD⟩:=hx.openV
 obtain⟨b0,o0,c0k,rfl,_,hA0,l0,hR0⟩:=hK.kid (i:=0) (by omega)
 rcases hf0:aq ks 0 with⟨k0,n0,t0,ks0,oo0,d0⟩
 rw[hf0]at hR0 h3
 obtain⟨pk0,ck0,pd0,cd0,rfl,_,_,_,_⟩:=hR0.openV
 refine doR Tryz.func178 ?_
 have he:Evo (fun b=>b<w.heap.size) w w:=Evo.refl w
 refine jA 2 rfl ?_
 have hs1:=he.size
 refine bx rfl ?_
 rintro _ w1 ⟨rfl,hb1,e1⟩
 have nx1:=hb1.lt
 have ns1:=e1.size
 replace he:=he.then e1
 have hs2:=he.size
 have hx2b1:=hb1.lt
 refine al ?_
 rintro _ w2 ⟨rfl,hb2,e2⟩
 have nx2:=hb2.lt
 have ns2:=e2.size
 refine jD 3 rfl ?_
 replace hb1:=hb1.mono e2
 refine la rfl hb1 ?_
 replace he:=he.then e2
 have hs3:=he.size
 have hx3b1:=hb1.lt
 have hx3b2:=hb2.lt
 refine al ?_
 rintro _ w3 ⟨rfl,hb3,e3⟩
 have nx3:=hb3.lt
 have ns3:=e3.size
 refine WL.l0 (lsw rfl rfl hb3) ?_
 rintro _ w4 ⟨hb3,e4,hz4⟩
 have ns4:=e4.size
 refine jD 4 rfl ?_
 refine WL.l0 (lst rfl rfl hb3) ?_
 rintro _ w5 ⟨hb3,e5,hz5⟩
 have ns5:=e5.size
 refine jD 5 rfl ?_
 replace hb1:=hb1.mono ((e3.then e4).then e5)
 refine ld rfl hb1 rfl ?_
 refine WL.q rfl (r_cmp (r_eql rfl rfl) (beqF (by(omega)))) ?_
 refine jD 3 rfl<|jA 4 rfl<|ld rfl hb1 rfl<|WL.q rfl (r_cmp (r_eql rfl rfl) (beqT (h)))<|jC 2 rfl<|lg rfl rfl rfl hb1 rfl<|jC 1 rfl ?_
 refine WL.qg rfl rfl rfl rfl (r_cmp (r_eql rfl rfl) (beqT (by(omega)))) ?_
 refine jC 3 rfl<|lg rfl rfl rfl hb1 rfl ?_
 refine WL.qg rfl rfl rfl rfl (r_idx Fo.h rfl rfl rfl (by first|omega|(simp;done)|(simp;omega))) ?_
 refine jC 1 rfl ?_
 replace hA0:=((hA0.mono e1).mono e2).mono ((e3.then e4).then e5)
 refine WL.qg rfl rfl rfl rfl (r_load Fb.h rfl (Ext.refl _) (hA0.get (j:=0) rfl)) ?_
 refine WL.qg rfl rfl rfl rfl (r_cmp (r_eql rfl rfl) (beqF (h3)))<|jD 4 rfl<|jA 4 rfl<|ld rfl hb1 rfl<|jD 4 rfl ?_
 obtain⟨N1,eN1⟩:∃M,M=w5.heap.size:=⟨_,rfl⟩
 replace hK:=((hK.mono e1).mono e2).mono ((e3.then e4).then e5)
 replace hD:=((hD.mono e1).mono e2).mono ((e3.then e4).then e5)
 replace hb2:=hb2.mono ((e3.then e4).then e5)
 replace he:=he.then ((e3.then e4).then e5)
 refine WC.loop2 (ι:=Nat) [(1,_),(2,_),(3,_),(40,_),(41,_)] (fun i=>[(42,.int .i64 (i:Int))]) (fun i wi=>(∃sv cs,Blk wi w2.heap.size [.int .i64 k,.int .u64 (n:Int),str t,sv,.int .i64 o,.slice pd d.length cd]∧Own N1 87 6 wi sv i cs∧aa (fun b=>(A b∧b<w.heap.size∨N1≤b)∧sv.ownBlock≠some b) wi (usualL (ks.take i)) cs)∧i≤ks.length∧Evo (fun b=>b<N1∧b≠w2.heap.size) w5 wi) (fun i=>ks.length-i) 0 sb sb (⟨⟨_,[],hb3,Own.nil _ _ _ _,by rw[List.take_zero,usualL,aa]⟩,Nat.zero_le _,Evo.refl _⟩) ?_
 intro i wi1 hh;obtain⟨⟨sv,cs,hB3,hO,hV⟩,ni,hE⟩:=hh
 have nwi:=hE.size
 rcases Nat.lt_or_ge i ks.length with qi|qi
 replace hK:=hK.mono hE
 ·obtain⟨c1,_,hA1,l1,hR1⟩:=hK.kidP qi
  obtain⟨x0,x1,x2,x3,x4,x5,rfl⟩:=hR1.six
  have q1:=hR1.one
  have qbel:=hO.below
  have qlt:=hO.lt
  refine jA 2 rfl<|lT rfl rfl<|jD 8 rfl<|ix rfl rfl rfl<|WL.q rfl (r_loadAgg Fo.h rfl (Ext.refl _) hA1 (hn:=rfl)) ?_
  replace he:=he.then hE
  have hs6:=he.size
  replace hb1:=hb1.mono hE
  have hx6b1:=hb1.lt
  replace hb2:=hb2.mono hE
  have hx6b2:=hb2.lt
  refine al ?_
  rintro _ w6 ⟨rfl,hb6,e6⟩
  have nx6:=hb6.lt
  have ns6:=e6.size
  refine WL.l0 (lsw rfl rfl hb6) ?_
  rintro _ w7 ⟨hb6,e7,hz7⟩
  have ns7:=e7.size
  refine WL.nil ?_
  replace hK:=hK.mono (e6.then e7)
  replace hD:=(hD.mono hE).mono (e6.then e7)
  replace hA0:=(hA0.mono hE).mono (e6.then e7)
  exact fc
 ·have hil:i=ks.length:=by omega
  rw[hil,List.take_length]at hV
  subst hil
  obtain⟨q0,c0,hq0,_,_⟩:=hO.form
  subst hq0
  have qul:=ao ks
  refine jA 2 rfl<|lF rfl rfl<|jD 3 rfl<|WC.exit<|jA 4 rfl ?_
  replace hb1:=hb1.mono hE
  refine ld rfl hb1 rfl ?_
  refine WL.q rfl (r_cmp (r_eql rfl rfl) (beqF (by(omega)))) ?_
  refine jD 9 rfl<|jA 2 rfl<|la rfl hB3 ?_
  replace hb2:=hb2.mono hE
  refine WL.l0 (lsw rfl rfl hb2) ?_
  rintro _ w6 ⟨hb2,e6,hz6⟩
  have ns6:=e6.size
  refine WL.nil<|WC.ret ?_
  replace hO:=hO.mono e6
  replace hV:=hV.mono e6
  have qK:aD (fun b=>A b∧b<w.heap.size∨w.heap.size≤b) w6 (usualL ks).length (.slice q0 ks.length c0) (aa (fun b=>A b∧b<w.heap.size∨w.heap.size≤b) w6 (usualL ks)):=by have h:=Own.slx (A:=fun b=>A b∧b<w.heap.size∨w.heap.size≤b) (m:=ks.length) hO hV qul (Nat.le_refl _) (fun b h=>by rcases h.1 with h|h;exact .inl h;exact .inr (by omega)) (fun b hb _=> .inr (by omega));rw[List.take_of_length_le (by omega)]at h;exact h
  replace hD:=(hD.mono hE).mono e6
  have qR:=ag.mkKD (k:=k) (n:=n) (t:=t) (o:=o) qK (hD.low (fun b h=> .inl h))
  replace he:=(he.then hE).then e6
  exact finC rfl hb2 agg_87 ⟨_,_,_,_,_,_,rfl,by rw[cB (by omega) (fun e=>h3 (by have h:=e.2.2;rw[k6 (by omega),hf0]at h;exact Option.some.inj h)) (fun e=>by omega)];exact qR,he.weaken fun k hk _=>hk⟩
theorem ig{k:Int}{n:Nat}{t:List UInt8}{ks:List V}{o:Int}{d:List V}(hks:∀x∈ks,aR x)(h2:k=21)(h1:d.length=1):aR (.mk k n t ks o d):=by
 intro A cx w hv hx
 rw[ah]at hv
 have hkl:=ae ks
 replace hx:=hx.weakenW (B:=fun b=>A b∧b<w.heap.size) (fun b hb h=>⟨h,hb⟩)
 obtain⟨pk,ck,pd,cd,rfl,_,_,hK,hD⟩:=hx.openV
 refine doR Tryz.func178 ?_
 have he:Evo (fun b=>b<w.heap.size) w w:=Evo.refl w
 refine jA 2 rfl ?_
 have hs1:=he.size
 refine bx rfl ?_
 rintro _ w1 ⟨rfl,hb1,e1⟩
 have nx1:=hb1.lt
 have ns1:=e1.size
 replace he:=he.then e1
 have hs2:=he.size
 have hx2b1:=hb1.lt
 refine al ?_
 rintro _ w2 ⟨rfl,hb2,e2⟩
 have nx2:=hb2.lt
 have ns2:=e2.size
 refine jD 3 rfl ?_
 replace hb1:=hb1.mono e2
 refine la rfl hb1 ?_
 replace he:=he.then e2
 have hs3:=he.size
 have hx3b1:=hb1.lt
 have hx3b2:=hb2.lt
 refine al ?_
 rintro _ w3 ⟨rfl,hb3,e3⟩
 have nx3:=hb3.lt
 have ns3:=e3.size
 refine WL.l0 (lsw rfl rfl hb3) ?_
 rintro _ w4 ⟨hb3,e4,hz4⟩
 have ns4:=e4.size
 refine jD 4 rfl ?_
 refine WL.l0 (lst rfl rfl hb3) ?_
 rintro _ w5 ⟨hb3,e5,hz5⟩
 have ns5:=e5.size
 refine jD 5 rfl ?_
 replace hb1:=hb1.mono ((e3.then e4).then e5)
 refine ld rfl hb1 rfl ?_
 refine WL.q rfl (r_cmp (r_eql rfl rfl) (beqF (by(omega)))) ?_
 refine jD 3 rfl<|jA 4 rfl<|ld rfl hb1 rfl ?_
 refine WL.q rfl (r_cmp (r_eql rfl rfl) (beqF (by(omega)))) ?_
 refine jD 17 rfl<|jA 4 rfl<|ld rfl hb1 rfl<|jD 4 rfl ?_
 obtain⟨N1,eN1⟩:∃M,M=w5.heap.size:=⟨_,rfl⟩
 replace hK:=((hK.mono e1).mono e2).mono ((e3.then e4).then e5)
 replace hD:=((hD.mono e1).mono e2).mono ((e3.then e4).then e5)
 replace hb2:=hb2.mono ((e3.then e4).then e5)
 replace he:=he.then ((e3.then e4).then e5)
 refine WC.loop2 (ι:=Nat) [(1,_),(2,_),(3,_),(40,_),(41,_)] (fun i=>[(42,.int .i64 (i:Int))]) (fun i wi=>(∃sv cs,Blk wi w2.heap.size [.int .i64 k,.int .u64 (n:Int),str t,sv,.int .i64 o,.slice pd d.length cd]∧Own N1 87 6 wi sv i cs∧aa (fun b=>(A b∧b<w.heap.size∨N1≤b)∧sv.ownBlock≠some b) wi (usualL (ks.take i)) cs)∧i≤ks.length∧Evo (fun b=>b<N1∧b≠w2.heap.size) w5 wi) (fun i=>ks.length-i) 0 sb sb (⟨⟨_,[],hb3,Own.nil _ _ _ _,by rw[List.take_zero,usualL,aa]⟩,Nat.zero_le _,Evo.refl _⟩) ?_
 intro i wi1 hh;obtain⟨⟨sv,cs,hB3,hO,hV⟩,ni,hE⟩:=hh
 have nwi:=hE.size
 rcases Nat.lt_or_ge i ks.length with qi|qi
 replace hK:=hK.mono hE
 ·obtain⟨b,o1,c1,rfl,_,hA1,l1,hR1⟩:=hK.kid qi
  obtain⟨x0,x1,x2,x3,x4,x5,rfl⟩:=hR1.six
  have q1:=hR1.one
  have qbel:=hO.below
  have qlt:=hO.lt
  refine jA 2 rfl<|lT rfl rfl<|jD 8 rfl<|ix rfl rfl rfl<|WL.q rfl (r_loadAgg Fo.h rfl (Ext.refl _) hA1 (hn:=rfl)) ?_
  replace he:=he.then hE
  have hs6:=he.size
  replace hb1:=hb1.mono hE
  have hx6b1:=hb1.lt
  replace hb2:=hb2.mono hE
  have hx6b2:=hb2.lt
  refine al ?_
  rintro _ w6 ⟨rfl,hb6,e6⟩
  have nx6:=hb6.lt
  have ns6:=e6.size
  refine WL.l0 (lsw rfl rfl hb6) ?_
  rintro _ w7 ⟨hb6,e7,hz7⟩
  have ns7:=e7.size
  refine WL.nil ?_
  replace hK:=hK.mono (e6.then e7)
  replace hD:=(hD.mono hE).mono (e6.then e7)
  exact fc
 ·have hil:i=ks.length:=by omega
  rw[hil,List.take_length]at hV
  subst hil
  obtain⟨q0,c0,hq0,_,_⟩:=hO.form
  subst hq0
  have qul:=ao ks
  refine jA 2 rfl<|lF rfl rfl<|jD 3 rfl<|WC.exit<|jA 4 rfl ?_
  replace hb1:=hb1.mono hE
  refine ld rfl hb1 rfl<|WL.q rfl (r_cmp (r_eql rfl rfl) (beqT (h2)))<|jC 2 rfl<|lg rfl rfl rfl hb1 rfl<|jC 1 rfl ?_
  refine WL.qg rfl rfl rfl rfl (r_cmp (r_eql rfl rfl) (beqT (by(omega)))) ?_
  refine jD 4 rfl ?_
  obtain⟨N2,eN2⟩:∃M,M=wi1.heap.size:=⟨_,rfl⟩
  replace hK:=hK.mono hE
  replace hD:=hD.mono hE
  replace hb2:=hb2.mono hE
  replace he:=he.then hE
  refine WC.loop2 (ι:=Nat) [(1,_),(2,_),(3,_),(40,_),(41,_),(42,_)] (fun m=>[]) (fun m wi=>Blk wi w2.heap.size [.int .i64 k,.int .u64 (n:Int),str t,.slice q0 m c0,.int .i64 o,.slice pd d.length cd]∧m≤ks.length∧dropNulls (usualL ks)=dropNulls ((usualL ks).take m)∧Evo (fun b=>b<N2∧b≠w2.heap.size) wi1 wi) (fun m=>m) ks.length sb .nil (⟨hB3,Nat.le_refl _,by rw[List.take_of_length_le (by omega)],Evo.refl _⟩) ?_
  intro m wi2 hh;obtain⟨hB3,nm,qN,hE⟩:=hh
  have nwi2:=hE.size
  rcases m with _|m
  ·refine jA 4 rfl<|ld rfl hB3 rfl<|jC 1 rfl ?_
   refine WL.q rfl (r_cmp (r_gtr rfl rfl) (decide_eq_false (by(omega)))) ?_
   refine jD 14 rfl<|WC.exit<|jA 2 rfl<|la rfl hB3 ?_
   replace hb2:=hb2.mono hE
   refine WL.l0 (lsw rfl rfl hb2) ?_
   rintro _ w6 ⟨hb2,e6,hz6⟩
   have ns6:=e6.size
   refine WL.nil<|WC.ret ?_
   have qK:aD (fun b=>A b∧b<w.heap.size∨w.heap.size≤b) w6 ([]:List V).length (.slice q0 0 c0) (aa (fun b=>A b∧b<w.heap.size∨w.heap.size≤b) w6 []):=⟨q0,c0,[],rfl,Nat.zero_le _,by rw[aa],.inl rfl⟩
   replace hD:=(hD.mono hE).mono e6
   have qR:=ag.mkKD (k:=k) (n:=n) (t:=t) (o:=o) qK (hD.low (fun b h=> .inl h))
   replace he:=(he.then hE).then e6
   exact finC rfl hb2 agg_87 ⟨_,_,_,_,_,_,rfl,by rw[fQ h2 h1,qN,List.take_zero,dropNulls];exact qR,he.weaken fun k hk _=>hk⟩
  replace hO:=hO.mono hE
  ·obtain⟨q2,c2,eq2,_,q3⟩:=hO.form
   simp only[Value.slice.injEq,true_and]at eq2
   obtain⟨rfl,rfl⟩:=eq2
   obtain⟨g,rfl,_,qgl,_⟩:=q3 (by omega)
   obtain⟨qat,_⟩:=hO.at0 (by omega)
   replace hV:=hV.mono hE
   obtain⟨pre,cc,post,hcs,npre,hRy0⟩:=hV.get (i:=m) (by omega)
   rw[hcs]at qat
   have hcell:=qat.mid
   rw[npre]at hcell
   have qtk:(usualL ks).take (m+1)=(usualL ks).take m++[aq (usualL ks) m]:=by rw[← List.take_append_getElem (by omega),az (by omega)]
   rw[az (by omega)]at hRy0
   rcases hfm:aq (usualL ks) m with⟨km,nm2,tm,ksm,om,dm⟩
   rw[hfm]at hRy0 qtk
   obtain⟨pkm,ckm,pdm,cdm,rfl,_,_,_,_⟩:=hRy0.openV
   rcases Decidable.em (km=0)with qk|qk
   ·rw[qtk,fA (x:= .mk km nm2 tm ksm om dm) _ qk]at qN
    refine jA 4 rfl<|ld rfl hB3 rfl<|jC 1 rfl ?_
    refine WL.q rfl (r_cmp (r_gtr rfl rfl) (decide_eq_true (by(omega)))) ?_
    refine jC 2 rfl<|lg rfl rfl rfl hB3 rfl<|jC 1 rfl<|lg rfl rfl rfl hB3 rfl<|jC 1 rfl ?_
    refine WL.qg rfl rfl rfl rfl (r_subi (c:=(m:Int)) rfl rfl (by omega) (by omega) (by omega)) ?_
    refine WL.qg rfl rfl rfl rfl (r_idx Fo.h rfl rfl rfl (by first|omega|(simp;done)|(simp;omega))) ?_
    refine jC 1 rfl ?_
    refine WL.qg rfl rfl rfl rfl (r_load Fb.h rfl (Ext.refl _) (hcell.get (j:=0) rfl)) ?_
    refine WL.qg rfl rfl rfl rfl (r_cmp (r_eql rfl rfl) (beqT (qk)))<|jD 4 rfl<|jA 3 rfl<|ld rfl hB3 rfl<|jC 1 rfl<|ld rfl hB3 rfl<|jC 1 rfl ?_
    refine WL.q rfl (r_subi (c:=(m:Int)) rfl rfl (by omega) (by omega) (by omega)) ?_
    refine WL.q rfl (r_sliceh Fo.h rfl rfl rfl (by first|omega|(simp;done)|(simp;omega))) ?_
    refine jC 1 rfl ?_
    refine WL.l0 (lst rfl rfl hB3) ?_
    rintro _ w6 ⟨hB3,e6,hz6⟩
    have ns6:=e6.size
    refine WL.nil ?_
    exact⟨m,sb,.nil,⟨hB3,by omega,qN,((hE.then e6))⟩,(by show m<m+1;omega)⟩
   ·rw[qtk,fB (x:= .mk km nm2 tm ksm om dm) _ qk,← qtk]at qN
    refine jA 4 rfl<|ld rfl hB3 rfl<|jC 1 rfl ?_
    refine WL.q rfl (r_cmp (r_gtr rfl rfl) (decide_eq_true (by(omega)))) ?_
    refine jC 2 rfl<|lg rfl rfl rfl hB3 rfl<|jC 1 rfl<|lg rfl rfl rfl hB3 rfl<|jC 1 rfl ?_
    refine WL.qg rfl rfl rfl rfl (r_subi (c:=(m:Int)) rfl rfl (by omega) (by omega) (by omega)) ?_
    refine WL.qg rfl rfl rfl rfl (r_idx Fo.h rfl rfl rfl (by first|omega|(simp;done)|(simp;omega))) ?_
    refine jC 1 rfl ?_
    refine WL.qg rfl rfl rfl rfl (r_load Fb.h rfl (Ext.refl _) (hcell.get (j:=0) rfl)) ?_
    refine WL.qg rfl rfl rfl rfl (r_cmp (r_eql rfl rfl) (beqF (qk)))<|jD 3 rfl<|WC.exit<|jA 2 rfl<|la rfl hB3 ?_
    replace hb2:=hb2.mono hE
    refine WL.l0 (lsw rfl rfl hb2) ?_
    rintro _ w6 ⟨hb2,e6,hz6⟩
    have ns6:=e6.size
    refine WL.nil<|WC.ret ?_
    replace hO:=hO.mono e6
    replace hV:=hV.mono e6
    have qK:=Own.slx (A:=fun b=>A b∧b<w.heap.size∨w.heap.size≤b) (m:=m+1) hO hV qul (by omega) (fun b h=>by rcases h.1 with h|h;exact .inl h;exact .inr (by omega)) (fun b hb _=> .inr (by omega))
    replace hD:=(hD.mono hE).mono e6
    have qR:=ag.mkKD (k:=k) (n:=n) (t:=t) (o:=o) qK (hD.low (fun b h=> .inl h))
    replace he:=(he.then hE).then e6
    exact finC rfl hb2 agg_87 ⟨_,_,_,_,_,_,rfl,by rw[fQ h2 h1,qN];exact qR,he.weaken fun k hk _=>hk⟩
theorem ji{k:Int}{n:Nat}{t:List UInt8}{ks:List V}{o:Int}{d:List V}(h:k=23)(h1:ks.length=1)(h3:(aq ks 0).kind=20):aR (.mk k n t ks o d):=by
 intro A cx w hv hx
 replace hx:=hx.weakenW (B:=fun b=>A b∧b<w.heap.size) (fun b hb h=>⟨h,hb⟩)
 obtain⟨pk,ck,pd,cd,rfl,_,_,hK,hD⟩:=hx.openV
 obtain⟨b0,o0,c0k,rfl,_,hA0,l0,hR0⟩:=hK.kid (i:=0) (by omega)
 rcases hf0:aq ks 0 with⟨k0,n0,t0,ks0,oo0,d0⟩
 have h3':=h3
 rw[hf0]at hR0 h3
 obtain⟨pk0,ck0,pd0,cd0,rfl,_,_,_,_⟩:=hR0.openV
 refine doR Tryz.func178 ?_
 have he:Evo (fun b=>b<w.heap.size) w w:=Evo.refl w
 refine jA 2 rfl ?_
 have hs1:=he.size
 refine bx rfl ?_
 rintro _ w1 ⟨rfl,hb1,e1⟩
 have nx1:=hb1.lt
 have ns1:=e1.size
 replace he:=he.then e1
 have hs2:=he.size
 have hx2b1:=hb1.lt
 refine al ?_
 rintro _ w2 ⟨rfl,hb2,e2⟩
 have nx2:=hb2.lt
 have ns2:=e2.size
 refine jD 3 rfl ?_
 replace hb1:=hb1.mono e2
 refine la rfl hb1 ?_
 replace he:=he.then e2
 have hs3:=he.size
 have hx3b1:=hb1.lt
 have hx3b2:=hb2.lt
 refine al ?_
 rintro _ w3 ⟨rfl,hb3,e3⟩
 have nx3:=hb3.lt
 have ns3:=e3.size
 refine WL.l0 (lsw rfl rfl hb3) ?_
 rintro _ w4 ⟨hb3,e4,hz4⟩
 have ns4:=e4.size
 refine jD 4 rfl ?_
 refine WL.l0 (lst rfl rfl hb3) ?_
 rintro _ w5 ⟨hb3,e5,hz5⟩
 have ns5:=e5.size
 refine jD 5 rfl ?_
 replace hb1:=hb1.mono ((e3.then e4).then e5)
 refine ld rfl hb1 rfl ?_
 refine WL.q rfl (r_cmp (r_eql rfl rfl) (beqF (by(omega)))) ?_
 refine jD 3 rfl<|jA 4 rfl<|ld rfl hb1 rfl<|WL.q rfl (r_cmp (r_eql rfl rfl) (beqT (h)))<|jC 2 rfl<|lg rfl rfl rfl hb1 rfl<|jC 1 rfl ?_
 refine WL.qg rfl rfl rfl rfl (r_cmp (r_eql rfl rfl) (beqT (by(omega)))) ?_
 refine jC 3 rfl<|lg rfl rfl rfl hb1 rfl ?_
 refine WL.qg rfl rfl rfl rfl (r_idx Fo.h rfl rfl rfl (by first|omega|(simp;done)|(simp;omega))) ?_
 refine jC 1 rfl ?_
 replace hA0:=((hA0.mono e1).mono e2).mono ((e3.then e4).then e5)
 refine WL.qg rfl rfl rfl rfl (r_load Fb.h rfl (Ext.refl _) (hA0.get (j:=0) rfl)) ?_
 refine WL.qg rfl rfl rfl rfl (r_cmp (r_eql rfl rfl) (beqT (h3)))<|jD 6 rfl<|ld rfl hb1 rfl<|ix rfl rfl rfl<|jC 1 rfl ?_
 refine WL.q rfl (r_load Fb.h rfl (Ext.refl _) (hA0.get (j:=2) rfl)) ?_
 refine WL.q rfl (r_bld (cs:=[_,_,_,_,_,_]) Fo.h rfl rfl) ?_
 replace hb2:=hb2.mono ((e3.then e4).then e5)
 refine WL.l0 (lsw rfl rfl hb2) ?_
 rintro _ w6 ⟨hb2,e6,hz6⟩
 have ns6:=e6.size
 refine WL.nil<|WC.ret ?_
 replace he:=(he.then ((e3.then e4).then e5)).then e6
 exact finC rfl hb2 agg_87 ⟨_,_,_,_,_,_,rfl,by rw[fJ h h1 h3',hf0];exact eJ 19 0 t0,he.weaken fun k hk _=>hk⟩
theorem nG{k:Int}{n:Nat}{t:List UInt8}{ks:List V}{o:Int}{d:List V}(hks:∀x∈ks,aR x):aR (.mk k n t ks o d):=by
 rcases Decidable.em (k=20)with h|h
 ·exact jl hks h
 ·rcases Decidable.em (k=23)with h1|h1
  ·rcases Decidable.em (ks.length=1)with h2|h2
   ·rcases Decidable.em ((aq ks 0).kind=20)with h3|h3
    ·exact ji h1 h2 h3
    ·exact gJ hks h1 h2 h3
   ·exact jw hks h1 h2
  ·rcases Decidable.em (k=21)with h2|h2
   ·rcases Decidable.em (d.length=1)with h3|h3
    ·exact ig hks h2 h3
    ·exact iG hks h2 h3
   ·exact gF hks h h1 h2
mutual
theorem mw:∀x:V,aR x
 | .mk k n t ks o d=>nG (j4 ks)
theorem j4:∀l:List V,∀x∈l,aR x
 |[],x,hx=>by cases hx
 |a::r,x,hx=>by
  rcases List.mem_cons.1 hx with e|hx
  ·exact e▸mw a
  ·exact j4 r x hx
end
end Go.Proofs.LL
