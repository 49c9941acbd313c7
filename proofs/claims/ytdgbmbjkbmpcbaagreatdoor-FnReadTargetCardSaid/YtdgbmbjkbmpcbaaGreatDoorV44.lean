/- Own laws of frames, operations and loops, and contracts of functions of the program. Conditions: those that each theorem states. -/
import Derived.Test.YtdgbmbjkbmpcbaaGreatDoorV43
set_option linter.all false
set_option maxRecDepth 20000
namespace Go.Proofs.LL
open Go Go.Proofs Go.RowKit
set_option maxHeartbeats 4000000
attribute [local irreducible] RunOp WL WC WDL WT WX
theorem iR{A:Prop}(h:A:=by
 obtain⟨b1,o1,c1,rfl,q1,hA1,l1,hR1⟩:=hK.kid qi
 have hta:=fH qi
 have htl:=aL ks (i+1)
 obtain⟨x0,x1,x2,x3,x4,x5,rfl⟩:=hR1.six
 have q1c:=hR1.one
 refine jA 2 rfl<|lT rfl rfl<|jD 8 rfl<|ix rfl rfl rfl<|WL.q rfl (r_loadAgg Fo.h rfl (Ext.refl _) hA1 (hn:=rfl)) ?_
 replace he:=he.then hE
 have hs2:=he.size
 replace hb1:=hb1.mono hE
 have hx2b1:=hb1.lt
 refine al ?_
 rintro _ w2 ⟨rfl,hb2,e2⟩
 have nx2:=hb2.lt
 have ns2:=e2.size
 refine WL.l0 (lsw rfl rfl hb2) ?_
 rintro _ w3 ⟨hb2,e3,hz3⟩
 have ns3:=e3.size
 refine jD 3 rfl<|la rfl hb2<|jC 1 rfl ?_
 replace hF:=hF.mono (e2.then e3)
 replace hR1:=hR1.mono (e2.then e3)
 refine cl rfl (hks _ (ak qi) _ _ _ (hR1.weaken fun b h=>h.2) hF (by omega) (hW.mem _ (ak qi))) ?_
 rintro v4 w4 ⟨bs,qB,hP,hF,e4⟩
 have nvB:=qB.vol
 have hP0:=hP
 obtain⟨q4,c4,hq4,_,_⟩:=hP0.form
 subst hq4
 have ns4:=e4.size
 replace hD:=(hD.mono (e2.then e3)).mono e4
 refine WL.l rfl (l_app Fo.h rfl rfl hD (Src.own Fb.h hP (by omega) (fk _)) (by omega) (by simp only[maxLen];omega) (by omega)) ?_
 rintro v5 w5 ⟨hD,e5⟩
 have ns5:=e5.size
 refine jD 3 rfl<|ai rfl rfl rfl<|jC 2 rfl ?_
 have qD2:Own N1 5 1 w5 v5 (dat++bs).length (bc (dat++bs)):=by rw[aE,List.length_append];exact hD
 replace hF:=hF.mono e5
 exact⟨(i+1,_),sb,sb,⟨⟨_,qE.take qi qB,qD2⟩,hF,qi,((((hE.then (e2.then e3)).then e4).then e5))⟩,(by show ks.length-(i+1)<ks.length-i;omega)⟩):A:=h
theorem lM{A:Prop}(h:A:=by
 replace hF:=hF.mono e2
 replace he:=(he.then hE).then e2
 exact fin1 rfl ⟨⟨_,qG,hX3.low fun b h=>by show w.heap.size≤b;omega⟩,hF,he.weaken fun b hb h=>⟨hb,h⟩⟩):A:=h
theorem l9{A:Prop}(h:A:=by
 obtain⟨u',hd,e1,e2,hH⟩:=gf (c8:=192) (c32:=208) rfl rfl nEl (by omega) (by omega) hp
 exact⟨u',e1,by rw[e2];exact .list qE hH⟩):A:=h
theorem EncL.snoc:∀ {l:List V} {a:List UInt8} {x:V} {b:List UInt8},EncL l a→Enc x b→EncL (l++[x]) (a++b)
 |[],a,x,b,h,hx=>by cases h;have:=EncL.cons hx EncL.nil;simpa using this
 |y::r,a,x,b,h,hx=>by
  cases h with
  |cons h1 h2=>
   have:=EncL.cons h1 (EncL.snoc h2 hx)
   rw[List.append_assoc];exact this
theorem am.oneAll{A:Nat→Prop}{w:World}:∀ {ps:List cj} {cs:List Value},am A w ps cs→cs.all (fun v=>v.oneCell')=true
 |[],cs,h=>by simp only[am]at h;subst h;rfl
 |p::r,cs,h=>by
  simp only[am]at h
  obtain⟨dv,cs',rfl,hI,h2⟩:=h
  obtain⟨q,c,rfl,_,_⟩:=hI
  have:=am.oneAll h2
  simp only[List.all_cons,this,Bool.and_true]
  rfl
theorem EncL.take{l:List V}{i:Nat}{a b:List UInt8}(h:EncL (l.take i) a)(hi:i<l.length)(hx:Enc (aq l i) b):EncL (l.take (i+1)) (a++b):=by
 rw[← List.take_append_getElem hi,az hi];exact h.snoc hx
theorem ik{n:Nat}{t:List UInt8}{ks:List V}{o:Int}{d:List V}{cx:List Value}{fb:Nat}{w:World}(hks:∀x∈ks,gn x)(hx:ag (fun b=>b≠fb) w (.mk 21 n t ks o d) cx)(hF:Fm w fb)(hv:bv (.mk 21 n t ks o d)≤1000000000)(hW:fG ks)(hl:ks.length≤1000)(hne:0<ks.length):
  Does TP 62 [.pointer (some ⟨fb,0,none⟩),.agg cx.toArray] w fun r w'=>cD w.heap.size (.mk 21 n t ks o d) r w'∧Fm w' fb∧Evo (fun k=>k≠fb) w w':=by
 obtain⟨pk,ck,pd,cd,rfl,_,_,hK,_⟩:=hx.openV
 have hfl:=hF.lt
 rw[bv]at hv
 have hvk:=cJ ks
 replace hK:=hK.weakW (B:=fun b=>b<w.heap.size∧b≠fb) (fun b hb h=>⟨hb,h⟩)
 refine do1 Tryz.func62 ?_
 have he:Evo (fun b=>b<w.heap.size∧b≠fb) w w:=Evo.refl w
 refine jA 2 rfl ?_
 have hs1:=he.size
 refine bx rfl ?_
 rintro _ w1 ⟨rfl,hb1,e1⟩
 have nx1:=hb1.lt
 have ns1:=e1.size
 refine jD 6 rfl<|ld rfl hb1 rfl<|jD 61 rfl<|ld rfl hb1 rfl<|jD 4 rfl ?_
 obtain⟨N1,eN1⟩:∃M,M=w1.heap.size:=⟨_,rfl⟩
 replace hK:=hK.mono e1
 replace hF:=hF.mono e1
 replace he:=he.then e1
 refine WC.loop2 (ι:=(Nat×Value)) [(0,_),(3,_),(4,_),(61,_),(62,_)] (fun i=>[(5,i.2),(63,.int .i64 (i.1:Int))]) (fun i wi=>(∃dat,EncL (ks.take i.1) dat∧Own N1 5 1 wi i.2 dat.length (bc dat))∧Fm wi fb∧i.1≤ks.length∧Evo (fun b=>b<N1∧b≠fb) w1 wi) (fun i=>ks.length-i.1) (0,.slice none 0 0) sb sb (⟨⟨[],EncL.nil,Own.nil _ _ _ _⟩,hF,Nat.zero_le _,Evo.refl _⟩) ?_
 intro i wi1 hh;obtain⟨⟨dat,qE,hD⟩,hF,ni,hE⟩:=hh
 obtain⟨i,dv⟩:=i
 dsimp only at qE hD ni
 have nwi:=hE.size
 have nvE:=qE.vol
 have nvt:=aL ks i
 rcases Nat.lt_or_ge i ks.length with qi|qi
 replace hK:=hK.mono hE
 ·exact iR
 ·have hil:i=ks.length:=by omega
  have htk:ks.take i=ks:=by rw[hil,List.take_length]
  rw[htk]at qE nvE
  have nEl:=qE.len
  have hD0:=hD
  obtain⟨q8,c8,hq8,_,_⟩:=hD0.form
  subst hq8
  have qGm:∀p∈bE 192 208 dat (some ks.length),eP (.mk 21 n t ks o d) p:=fun p hp=>by
   exact l9
  refine jA 2 rfl<|lF rfl rfl<|jD 3 rfl<|WC.exit<|jA 4 rfl ?_
  replace hb1:=hb1.mono hE
  refine ld rfl hb1 rfl<|jD 4 rfl<|jA 4 rfl<|ld rfl hb1 rfl<|jC 1 rfl ?_
  refine cl rfl (aP (c:=some ks.length) (hD.toB (A:=fun _=>True) (fun _ _ _=>trivial)) (by omega) (fun n h=>by cases h;omega)) ?_
  rintro v2 w2 ⟨hL,e2⟩
  have ns2:=e2.size
  refine jD 6 rfl ?_
  replace hb1:=hb1.mono e2
  refine ld rfl hb1 rfl<|jC 1 rfl ?_
  refine WL.q rfl (r_cmp (r_eql rfl rfl) (beqF (by(omega)))) ?_
  refine jD 3 rfl<|jA 5 rfl<|WC.ret ?_
  have hX3:=hL.toX
  have qG:kJ (.mk 21 n t ks o d) (bE 192 208 dat (some ks.length)):=⟨qGm,Nat.le_trans bA (by omega),fX,fun h=>absurd h (by show¬arrK 21;unfold arrK;omega)⟩
  exact lM
theorem gl{n:Nat}{t:List UInt8}{ks:List V}{o:Int}{d:List V}{cx:List Value}{fb:Nat}{w:World}(hks:∀x∈ks,gn x)(hx:ag (fun b=>b≠fb) w (.mk 21 n t ks o d) cx)(hF:Fm w fb)(hv:bv (.mk 21 n t ks o d)≤1000000000)(hW:fG ks)(hl:ks.length≤1000)(hne:ks.length=0):
  Does TP 62 [.pointer (some ⟨fb,0,none⟩),.agg cx.toArray] w fun r w'=>cD w.heap.size (.mk 21 n t ks o d) r w'∧Fm w' fb∧Evo (fun k=>k≠fb) w w':=by
 obtain⟨pk,ck,pd,cd,rfl,_,_,hK,_⟩:=hx.openV
 have hfl:=hF.lt
 rw[bv]at hv
 have hvk:=cJ ks
 replace hK:=hK.weakW (B:=fun b=>b<w.heap.size∧b≠fb) (fun b hb h=>⟨hb,h⟩)
 refine do1 Tryz.func62 ?_
 have he:Evo (fun b=>b<w.heap.size∧b≠fb) w w:=Evo.refl w
 refine jA 2 rfl ?_
 have hs1:=he.size
 refine bx rfl ?_
 rintro _ w1 ⟨rfl,hb1,e1⟩
 have nx1:=hb1.lt
 have ns1:=e1.size
 refine jD 6 rfl<|ld rfl hb1 rfl<|jD 61 rfl<|ld rfl hb1 rfl<|jD 4 rfl ?_
 obtain⟨N1,eN1⟩:∃M,M=w1.heap.size:=⟨_,rfl⟩
 replace hK:=hK.mono e1
 replace hF:=hF.mono e1
 replace he:=he.then e1
 refine WC.loop2 (ι:=(Nat×Value)) [(0,_),(3,_),(4,_),(61,_),(62,_)] (fun i=>[(5,i.2),(63,.int .i64 (i.1:Int))]) (fun i wi=>(∃dat,EncL (ks.take i.1) dat∧Own N1 5 1 wi i.2 dat.length (bc dat))∧Fm wi fb∧i.1≤ks.length∧Evo (fun b=>b<N1∧b≠fb) w1 wi) (fun i=>ks.length-i.1) (0,.slice none 0 0) sb sb (⟨⟨[],EncL.nil,Own.nil _ _ _ _⟩,hF,Nat.zero_le _,Evo.refl _⟩) ?_
 intro i wi1 hh;obtain⟨⟨dat,qE,hD⟩,hF,ni,hE⟩:=hh
 obtain⟨i,dv⟩:=i
 dsimp only at qE hD ni
 have nwi:=hE.size
 have nvE:=qE.vol
 have nvt:=aL ks i
 rcases Nat.lt_or_ge i ks.length with qi|qi
 replace hK:=hK.mono hE
 ·exact iR
 ·have hil:i=ks.length:=by omega
  have htk:ks.take i=ks:=by rw[hil,List.take_length]
  rw[htk]at qE nvE
  have nEl:=qE.len
  have hD0:=hD
  obtain⟨q8,c8,hq8,_,_⟩:=hD0.form
  subst hq8
  have qGm:∀p∈bE 192 208 dat (some ks.length),eP (.mk 21 n t ks o d) p:=fun p hp=>by
   exact l9
  have qn:ks=[]:=List.eq_nil_of_length_eq_zero hne
  have qL:∀(w:World) (r:Value) (N:Nat),nP N w (bE 192 208 dat (some ks.length)) r→∃cs,Own N 152 2 w r (bE 192 208 dat (some ks.length)).length cs∧am (fun b=>N≤b∧r.ownBlock≠some b) w (bE 192 208 dat (some ks.length)) cs∧cs.all (fun v=>v.oneCell')=true:=fun w r N ⟨cs,h1,h2⟩=>⟨cs,h1,h2,h2.oneAll⟩
  have nLl:=bA (s:=192) (l:=208) (d:=dat) (c:=some ks.length)
  refine jA 2 rfl<|lF rfl rfl<|jD 3 rfl<|WC.exit<|jA 4 rfl ?_
  replace hb1:=hb1.mono hE
  refine ld rfl hb1 rfl<|jD 4 rfl<|jA 4 rfl<|ld rfl hb1 rfl<|jC 1 rfl ?_
  refine cl rfl (aP (c:=some ks.length) (hD.toB (A:=fun _=>True) (fun _ _ _=>trivial)) (by omega) (fun n h=>by cases h;omega)) ?_
  rintro v2 w2 ⟨hL,e2⟩
  obtain⟨cs,hZL,hZV0,oc⟩:=qL _ _ _ hL
  have hZV:=hZV0.weakenW (B:=fun b=>w.heap.size≤b∧b<w2.heap.size) (fun b hb h=>⟨by have:=h.1;omega,hb⟩)
  have ns2:=e2.size
  refine jD 6 rfl ?_
  replace hb1:=hb1.mono e2
  refine ld rfl hb1 rfl<|jC 1 rfl ?_
  refine WL.q rfl (r_cmp (r_eql rfl rfl) (beqT (by(omega)))) ?_
  refine jD 3 rfl<|WL.q rfl (r_bld (cs:=[_,_]) Fo.h rfl rfl) ?_
  refine WL.l rfl (l_litO (vs:=[_]) Fo.h rfl rfl rfl rfl rfl) ?_
  rintro v3 w3 ⟨rfl,hOl,e3⟩
  have ns3:=e3.size
  refine jC 1 rfl ?_
  replace hZL:=hZL.mono e3
  refine WL.l rfl (l_app Fo.h rfl rfl hOl (Src.own Fb.h hZL (by omega) oc) (by omega) (by simp only[maxLen];omega) (by omega)) ?_
  rintro v4 w4 ⟨hOf,e4⟩
  have ns4:=e4.size
  refine jD 7 rfl<|WC.ret ?_
  have qG:kJ (.mk 21 n t ks o d) ([(0x45,[])]++bE 192 208 dat (some ks.length)):=⟨fun p hp=>by
   rcases List.mem_append.1 hp with h|h
   ·rw[List.mem_singleton.1 h];exact⟨0x45,rfl,by rw[qn];exact .list0⟩
   ·exact qGm p h,by rw[List.length_append,List.length_singleton];omega,by simp,fun h=>absurd h (by show¬arrK 21;unfold arrK;omega)⟩
  replace hF:=((hF.mono e2).mono e3).mono e4
  replace hZV:=(hZV.mono e3).mono e4
  replace he:=(((he.then hE).then e2).then e3).then e4
  exact fin1 rfl ⟨⟨_,qG,aX.own hOf (by rw[List.length_append,List.length_singleton]) (am.append (am.one (p:=(0x45,[])) IsB.nil) (hZV.weaken fun b h=>h.1)) (fun b hb=>by show w.heap.size≤b;omega)⟩,hF,he.weaken fun b hb h=>⟨hb,h⟩⟩
theorem ic{n:Nat}{t:List UInt8}{ks:List V}{o:Int}{d:List V}{cx:List Value}{fb:Nat}{w:World}(hks:∀x∈ks,gn x)(hx:ag (fun b=>b≠fb) w (.mk 22 n t ks o d) cx)(hF:Fm w fb)(hv:bv (.mk 22 n t ks o d)≤1000000000)(hW:fG ks)(hl:ks.length≤1000):
  Does TP 62 [.pointer (some ⟨fb,0,none⟩),.agg cx.toArray] w fun r w'=>cD w.heap.size (.mk 22 n t ks o d) r w'∧Fm w' fb∧Evo (fun k=>k≠fb) w w':=by
 obtain⟨pk,ck,pd,cd,rfl,_,_,hK,_⟩:=hx.openV
 have hfl:=hF.lt
 rw[bv]at hv
 have hvk:=cJ ks
 replace hK:=hK.weakW (B:=fun b=>b<w.heap.size∧b≠fb) (fun b hb h=>⟨hb,h⟩)
 refine do1 Tryz.func62 ?_
 have he:Evo (fun b=>b<w.heap.size∧b≠fb) w w:=Evo.refl w
 refine jA 2 rfl ?_
 have hs1:=he.size
 refine bx rfl ?_
 rintro _ w1 ⟨rfl,hb1,e1⟩
 have nx1:=hb1.lt
 have ns1:=e1.size
 refine jD 6 rfl<|ld rfl hb1 rfl<|jD 64 rfl<|ld rfl hb1 rfl<|jD 4 rfl ?_
 obtain⟨N1,eN1⟩:∃M,M=w1.heap.size:=⟨_,rfl⟩
 replace hK:=hK.mono e1
 replace hF:=hF.mono e1
 replace he:=he.then e1
 refine WC.loop2 (ι:=(Nat×Value)) [(0,_),(3,_),(4,_),(61,_),(62,_)] (fun i=>[(5,i.2),(63,.int .i64 (i.1:Int))]) (fun i wi=>(∃dat,EncL (ks.take i.1) dat∧Own N1 5 1 wi i.2 dat.length (bc dat))∧Fm wi fb∧i.1≤ks.length∧Evo (fun b=>b<N1∧b≠fb) w1 wi) (fun i=>ks.length-i.1) (0,.slice none 0 0) sb sb (⟨⟨[],EncL.nil,Own.nil _ _ _ _⟩,hF,Nat.zero_le _,Evo.refl _⟩) ?_
 intro i wi1 hh;obtain⟨⟨dat,qE,hD⟩,hF,ni,hE⟩:=hh
 obtain⟨i,dv⟩:=i
 dsimp only at qE hD ni
 have nwi:=hE.size
 have nvE:=qE.vol
 have nvt:=aL ks i
 rcases Nat.lt_or_ge i ks.length with qi|qi
 replace hK:=hK.mono hE
 ·exact iR
 ·have hil:i=ks.length:=by omega
  have htk:ks.take i=ks:=by rw[hil,List.take_length]
  rw[htk]at qE nvE
  have nEl:=qE.len
  have hD0:=hD
  obtain⟨q8,c8,hq8,_,_⟩:=hD0.form
  subst hq8
  have qGm:∀p∈bE 193 209 dat (some ks.length),eP (.mk 22 n t ks o d) p:=fun p hp=>by
   obtain⟨u',hd,e1,e2,hH⟩:=gf (c8:=193) (c32:=209) rfl rfl nEl (by omega) (by omega) hp
   exact⟨u',e1,by rw[e2];exact .map qE hH⟩
  refine jA 2 rfl<|lF rfl rfl<|jD 3 rfl<|WC.exit<|jA 4 rfl ?_
  replace hb1:=hb1.mono hE
  refine ld rfl hb1 rfl<|jD 7 rfl<|ld rfl hb1 rfl<|jC 1 rfl ?_
  refine cl rfl (aP (c:=some ks.length) (hD.toB (A:=fun _=>True) (fun _ _ _=>trivial)) (by omega) (fun n h=>by cases h;omega)) ?_
  rintro v2 w2 ⟨hL,e2⟩
  have ns2:=e2.size
  refine jC 2 rfl<|WC.ret ?_
  have hX3:=hL.toX
  have qG:kJ (.mk 22 n t ks o d) (bE 193 209 dat (some ks.length)):=⟨qGm,Nat.le_trans bA (by omega),fX,fun h=>absurd h (by show¬arrK 22;unfold arrK;omega)⟩
  exact lM
theorem m6{n:Nat}{t:List UInt8}{ks:List V}{o:Int}{d:List V}{cx:List Value}{fb:Nat}{w:World}{kk:Int}(hx:ag (fun b=>b≠fb) w (.mk 23 n t ks o d) cx)(hF:Fm w fb)(hv:bv (.mk 23 n t ks o d)≤1000000000)(hne:0<ks.length)(hl:ks.length≤1000)(hkk:arrK kk)(hall:∀x∈ks,x.kind=kk∧plainOK x):
  Does TP 62 [.pointer (some ⟨fb,0,none⟩),.agg cx.toArray] w fun r w'=>cD w.heap.size (.mk 23 n t ks o d) r w'∧Fm w' fb∧Evo (fun k=>k≠fb) w w':=by
 have hx0:=hx
 obtain⟨pk,ck,pd,cd,rfl,_,_,_,_⟩:=hx0.openV
 have hfl:=hF.lt
 refine do1 Tryz.func62 ?_
 refine jA 2 rfl ?_
 refine bx rfl ?_
 rintro _ w1 ⟨rfl,hb1,e1⟩
 have nx1:=hb1.lt
 have ns1:=e1.size
 refine jD 6 rfl<|ld rfl hb1 rfl<|jD 65 rfl<|WL.q rfl (r_loadAgg Fo.h rfl (Ext.refl _) hb1.at (hn:=rfl)) ?_
 replace hx:=hx.mono e1
 replace hF:=hF.mono e1
 refine cl rfl (mu hx hF hv hne hl hkk hall) ?_
 rintro v2 w2 ⟨⟨ps,qG,hX⟩,hF,e2⟩
 have ns2:=e2.size
 refine jC 2 rfl<|WC.ret ?_
 exact fin1 rfl ⟨⟨ps,qG,hX.low fun b h=>by show w.heap.size≤b;omega⟩,hF,ch⟩
theorem fU{x:V}(hks:∀y∈x.kids,gn y):ol x:=by
 intro cx fb w hx hF hv hW
 obtain⟨k,n,t,ks,o,d⟩:=x
 rw[Wt]at hW
 obtain⟨w1,w2,w3,w4,w5,w6,w7,w8⟩:=hW
 have hfl:=hF.lt
 have hv':=hv
 rw[bv]at hv'
 rcases(show((0≤k∧k≤11)∨(16≤k∧k≤20))∨k=21∨k=22∨k=23 by omega)with h|rfl|rfl|rfl
 ·refine(eA h _ n t ks o d cx fb w hx w4.2.2.2.2.2.2.2.2 w4.1 (by omega)).imp fun r w' hr=>?_
  exact⟨hr.1,hF.mono hr.2,hr.2.weaken fun _ _ _=>trivial⟩
 ·rcases Nat.eq_zero_or_pos ks.length with h0|h0
  ·exact gl hks hx hF hv (w7 (.inl rfl)) w5 h0
  ·exact ik hks hx hF hv (w7 (.inl rfl)) w5 h0
 ·exact ic hks hx hF hv (w7 (.inr rfl)) w5
 ·obtain⟨h0,kk,h1,h2⟩:=w8 rfl
  exact m6 hx hF hv (List.length_pos_iff.2 h0) w5 h1 h2
theorem lH{P:Program}{ρ:Fr}{ty:TypeId}{s x:Operand}{w:World}(C:Nat→Prop){A:Nat→Prop}{pv:Value}{l:List UInt8}{B t tx e z bs n m:Nat}{zv v u:Value}{xs news:List Value}(hI:IsB A w pv l)(hA:∀b,A b→v.ownBlock≠some b)(hC:∀k,C k→v.ownBlock≠some k)(ht:slZ P t=some (e,z,bs,zv))(hs:ov ρ s=some v)(hx:ov ρ x=some u)(hown:Own B e z w v n xs)(hsrc:Src P z tx u m news w)(hB:B≤w.heap.size)(h63:n+m≤maxLen)(hbytes:(n+m) * bs≤140737488355328):
  LoudOp P (.call ⟨.builtin .append, #[s,x], #[t,tx]⟩) ty ρ w (fun v' w'=>Own B e z w' v' (n+m) (xs++news)∧IsB A w' pv l∧Evo (fun k=>k<B) w w'∧Evo C w w'):=
 (l_appO ht hs hx hown hsrc hB h63 hbytes).imp fun v' w' ⟨h1,h2,_⟩=>⟨h1,hI.mono h2 (fun b _ h=>hA b h),hown.evo (w0:=w) h2,h2.weaken fun k _ h=>hC k h⟩
theorem Own.cast{B e z n m:Nat}{w:World}{v:Value}{xs ys:List Value}(h:Own B e z w v n xs)(hn:n=m)(hx:xs=ys):Own B e z w v m ys:=hn▸hx▸h
theorem fO{k:Int}{n:Nat}{t:List UInt8}{ks:List V}{o:Int}{d:List V}(hP:ol (.mk k n t ks o d))(hd:d=[]):gn (.mk k n t ks o d):=by
 intro cx fb w hx hF hv hW
 subst hd
 have hx0:=hx
 obtain⟨pk,ck,pd,cd,rfl,_,_,_,hD⟩:=hx0.openV
 have hfl:=hF.lt
 have hxw:=hx.weakenW (B:=fun b=>b<w.heap.size∧b≠fb) (fun b hb h=>⟨hb,h⟩)
 have hvv:=hv
 rw[bv]at hvv
 refine do1 Tryz.func34 ?_
 have he:Evo (fun b=>b<w.heap.size∧b≠fb) w w:=Evo.refl w
 refine jA 2 rfl ?_
 have hs1:=he.size
 refine bx rfl ?_
 rintro _ w1 ⟨rfl,hb1,e1⟩
 have nx1:=hb1.lt
 have ns1:=e1.size
 refine jD 10 rfl<|ld rfl hb1 rfl<|jC 1 rfl ?_
 refine WL.q rfl (r_cmp (r_gtr rfl rfl) (decide_eq_false (by(simp)))) ?_
 refine jD 3 rfl<|jA 3 rfl<|WL.q rfl (r_loadAgg Fo.h rfl (Ext.refl _) hb1.at (hn:=rfl)) ?_
 replace hxw:=hxw.mono e1
 replace hF:=hF.mono e1
 refine cl rfl (hP _ _ _ (hxw.weaken fun b h=>h.2) hF hv hW) ?_
 rintro v2 w2 ⟨⟨ps,qG,hX⟩,hF,e2⟩
 have hX0:=hX
 obtain⟨pp,pc,pcs,hpv,_⟩:=hX0
 subst hpv
 have qpos:0<ps.length:=List.length_pos_iff.2 qG.ne
 have qlen:=qG.len
 have ns2:=e2.size
 refine jD 8 rfl ?_
 refine cl rfl (cT hF (by omega) (by omega)) ?_
 rintro v3 w3 ⟨⟨ki,qki,rfl⟩,hF,e3⟩
 have hX2:=hX.mono e3 (fun b _ hb2=>by have:_≤b:=hb2;show b≠fb;omega)
 obtain⟨b2,o2,pv,hpe,qb2,hZA,hZI,qov⟩:=hX2.kid qki
 subst hpe
 obtain⟨u,quc,quP⟩:=qG.all _ (List.getElem_mem qki)
 have nuE:=quP.vol1 (fun body h=>EncL.vol h) (fun c' body h=>Elems.vol h)
 have ns3:=e3.size
 refine ix rfl rfl rfl<|WL.q rfl (r_loadAgg Fo.h rfl (Ext.refl _) hZA (hn:=rfl)) ?_
 replace he:=((he.then e1).then e2).then e3
 have hs4:=he.size
 replace hb1:=(hb1.mono e2).mono e3
 have hx4b1:=hb1.lt
 refine al ?_
 rintro _ w4 ⟨rfl,hb4,e4⟩
 have nx4:=hb4.lt
 have ns4:=e4.size
 refine WL.l0 (lsw rfl rfl hb4) ?_
 rintro _ w5 ⟨hb4,e5,hz5⟩
 have ns5:=e5.size
 refine WL.nil ?_
 replace hxw:=((hxw.mono e2).mono e3).mono (e4.then e5)
 replace hF:=hF.mono (e4.then e5)
 replace hb1:=hb1.mono (e4.then e5)
 replace hX:=(hX.mono e3).mono (e4.then e5)
 replace hZA:=hZA.mono (e4.then e5)
 replace hZI:=hZI.mono (e4.then e5)
 refine WC.seq<|WC.regionDL 8 (tt [0,1,2,3,6,7]++ff [4,5,8]++tt [9]) (Ext _) mixed (by kernel_rfl) (Ext.drew _) ?_
 have nd1w5:w5.drew.heap.size=w5.heap.size:=rfl
 refine jE 2 rfl<|dl rfl hb4 rfl ?_
 refine WD.q rfl (fun _ hS=>r_cvIntE (m:=(u.toNat:Int)) Fo.h rfl (by rw[quc];exact pn u)) ?_
 refine jE 1 rfl<|dl rfl hb4 rfl ?_
 replace he:=(he.then (e4.then e5)).then (Ext.drew _)
 have hs6:=he.size
 replace hb1:=hb1.mono (Ext.drew _)
 have hx6b1:=hb1.lt
 replace hb4:=hb4.mono (Ext.drew _)
 have hx6b4:=hb4.lt
 refine WD.l rfl rfl (ll [_]) ?_
 rintro _ w6 ⟨rfl,hb6,e6⟩
 have ns6:=e6.size
 refine⟨((Evo.drew _).then e6),?_⟩
 refine WD.l rfl rfl (lH (fun _=>True) ((hZI.mono (Ext.drew _)).mono e6) (fun _ _=>by simp[Value.ownBlock]) (fun _ _=>by simp[Value.ownBlock]) Fo.h rfl rfl (Own.nil w.heap.size 5 1 _) (Src.at Fb.h hb6.at rfl rfl) (by omega) (by simp only[maxLen];omega) (by omega)) ?_
 rintro v7 w7 ⟨hO5,hZI,e7,e7s⟩
 have ns7:=e7.size
 refine⟨(((Evo.drew _).then e6).then e7s),?_⟩
 refine WD.lL rfl rfl rfl (l_app Fo.h rfl rfl hO5 (Src.isB Fb.h hZI) (by omega) (by simp only[maxLen];omega) (by omega)) ?_
 rintro v8 w8 ⟨hO8,e8⟩
 have ns8:=e8.size
 refine WT.q rfl rfl (r_assign rfl)<|WT.nil<|WC.ret ?_
 replace hF:=(((hF.mono (Ext.drew _)).mono e6).mono e7).mono e8
 replace he:=((he.then e6).then e7).then e8
 exact fin1 rfl ⟨u::ps[ki].2,.plain rfl quP,hO8.cast (by simp;omega) rfl,hF,he.weaken fun b hb h=>⟨hb,h⟩⟩
theorem lc{k:Int}{n:Nat}{t:List UInt8}{ks:List V}{o:Int}{d:List V}(hP:ol (.mk k n t ks o d)){c:Nat}(hc:c<18446744073709551616)(hd:d=[uV c])(hY:gn (uV c)):gn (.mk k n t ks o d):=by
 intro cx fb w hx hF hv hW
 subst hd
 have hx0:=hx
 obtain⟨pk,ck,pd,cd,rfl,_,_,_,hD⟩:=hx0.openV
 have hfl:=hF.lt
 have hxw:=hx.weakenW (B:=fun b=>b<w.heap.size∧b≠fb) (fun b hb h=>⟨hb,h⟩)
 have hvv:=hv
 rw[bv]at hvv
 obtain⟨b1,o1,c1,rfl,q1,hA1,l1,hR1⟩:=hD.kid (i:=0) (by simp)
 have hR1:ag (fun b=>b≠fb) w (uV c) c1:=hR1
 have nvu:au [uV c]=bv (uV c):=by rw[au,au];omega
 have q1l:b1<w.heap.size:=by
  obtain⟨x0,x1,x2,x3,x4,x5,e⟩:=hR1.six
  rw[e]at hA1
  exact lt_of_cell (hA1.get (j:=0) rfl)
 refine do1 Tryz.func34 ?_
 have he:Evo (fun b=>b<w.heap.size∧b≠fb) w w:=Evo.refl w
 refine jA 2 rfl ?_
 have hs1:=he.size
 refine bx rfl ?_
 rintro _ w1 ⟨rfl,hb1,e1⟩
 have nx1:=hb1.lt
 have ns1:=e1.size
 refine jD 10 rfl<|ld rfl hb1 rfl<|jC 1 rfl ?_
 refine WL.q rfl (r_cmp (r_gtr rfl rfl) (decide_eq_true (by(simp)))) ?_
 refine jD 3 rfl ?_
 refine WL.l rfl (l_litO (vs:=[_]) Fo.h rfl rfl rfl rfl rfl) ?_
 rintro v2 w2 ⟨rfl,hOl,e2⟩
 have ns2:=e2.size
 refine jC 1 rfl ?_
 replace hb1:=hb1.mono e2
 refine ld rfl hb1 rfl<|ix rfl rfl rfl ?_
 replace hA1:=(hA1.mono e1).mono e2
 refine WL.q rfl (r_loadAgg Fo.h rfl (Ext.refl _) hA1 (hn:=l1))<|jC 1 rfl ?_
 replace hF:=(hF.mono e1).mono e2
 replace hR1:=(hR1.mono e1).mono e2
 refine cl rfl (hY _ _ _ hR1 hF (by omega) (gM (by omega) (by omega) (by omega) (by omega) hc)) ?_
 rintro v3 w3 ⟨bs,qB,hPb,hF,e3⟩
 have nvB:=qB.vol
 have ns3:=e3.size
 replace hOl:=hOl.mono e3
 refine WL.l rfl (l_app Fo.h rfl rfl hOl (Src.own Fb.h hPb (by omega) (fk _)) (by omega) (by simp only[maxLen];omega) (by omega)) ?_
 rintro v4 w4 ⟨hOp,e4⟩
 have qOl:=hOp.lt
 obtain⟨q5,c5,hq5,_,hq6⟩:=hOp.form
 obtain⟨g5,hq7,ng5,ng6,_⟩:=hq6 (by omega)
 subst hq7
 subst hq5
 have ns4:=e4.size
 refine jD 5 rfl ?_
 replace hb1:=(hb1.mono e3).mono e4
 refine WL.q rfl (r_loadAgg Fo.h rfl (Ext.refl _) hb1.at (hn:=rfl)) ?_
 replace hxw:=(((hxw.mono e1).mono e2).mono e3).mono e4
 replace hF:=hF.mono e4
 refine cl rfl (hP _ _ _ (hxw.weaken fun b h=>h.2) hF hv hW) ?_
 rintro v5 w5 ⟨⟨ps,qG,hX⟩,hF,e5⟩
 have hX0:=hX
 obtain⟨pp,pc,pcs,hpv,_⟩:=hX0
 subst hpv
 have qpos:0<ps.length:=List.length_pos_iff.2 qG.ne
 have qlen:=qG.len
 have ns5:=e5.size
 refine jD 8 rfl ?_
 refine cl rfl (cT hF (by omega) (by omega)) ?_
 rintro v6 w6 ⟨⟨ki,qki,rfl⟩,hF,e6⟩
 have hX2:=hX.mono e6 (fun b _ hb2=>by have:_≤b:=hb2;show b≠fb;omega)
 obtain⟨b2,o2,pv,hpe,qb2,hZA,hZI,qov⟩:=hX2.kid qki
 subst hpe
 obtain⟨u,quc,quP⟩:=qG.all _ (List.getElem_mem qki)
 have nuE:=quP.vol1 (fun body h=>EncL.vol h) (fun c' body h=>Elems.vol h)
 have ns6:=e6.size
 refine ix rfl rfl rfl<|WL.q rfl (r_loadAgg Fo.h rfl (Ext.refl _) hZA (hn:=rfl)) ?_
 replace he:=(((((he.then e1).then e2).then e3).then e4).then e5).then e6
 have hs7:=he.size
 replace hb1:=(hb1.mono e5).mono e6
 have hx7b1:=hb1.lt
 refine al ?_
 rintro _ w7 ⟨rfl,hb7,e7⟩
 have nx7:=hb7.lt
 have ns7:=e7.size
 refine WL.l0 (lsw rfl rfl hb7) ?_
 rintro _ w8 ⟨hb7,e8,hz8⟩
 have ns8:=e8.size
 refine WL.nil ?_
 replace hxw:=((hxw.mono e5).mono e6).mono (e7.then e8)
 replace hF:=hF.mono (e7.then e8)
 replace hb1:=hb1.mono (e7.then e8)
 replace hOp:=((hOp.mono e5).mono e6).mono (e7.then e8)
 replace hX:=(hX.mono e6).mono (e7.then e8)
 replace hZA:=hZA.mono (e7.then e8)
 replace hZI:=hZI.mono (e7.then e8)
 refine WC.seq<|WC.regionDL 8 (tt [0,1,2,3,6,7]++ff [4,5,8]++tt [9]) (Evo (fun k=>k≠g5) _) mixed (by kernel_rfl) (Evo.drew _) ?_
 have nd1w8:w8.drew.heap.size=w8.heap.size:=rfl
 refine jE 2 rfl<|dl rfl hb7 rfl ?_
 refine WD.q rfl (fun _ hS=>r_cvIntE (m:=(u.toNat:Int)) Fo.h rfl (by rw[quc];exact pn u)) ?_
 refine jE 1 rfl<|dl rfl hb7 rfl ?_
 replace he:=(he.then (e7.then e8)).then (Ext.drew _)
 have hs9:=he.size
 replace hb1:=hb1.mono (Ext.drew _)
 have hx9b1:=hb1.lt
 replace hb7:=hb7.mono (Ext.drew _)
 have hx9b7:=hb7.lt
 refine WD.l rfl rfl (ll [_]) ?_
 rintro _ w9 ⟨rfl,hb9,e9⟩
 have ns9:=e9.size
 refine⟨((Evo.drew _).then e9),?_⟩
 refine WD.l rfl rfl (lH (fun k=>k≠g5) ((hZI.mono (Ext.drew _)).mono e9) (fun b hb e=>by have:=qOl b e;have:_≤b:=hb;omega) (by intro k h e;exact h (Option.some.inj e).symm) Fo.h rfl rfl (((hOp.mono (Ext.drew _)).mono e9)) (Src.at Fb.h hb9.at rfl rfl) (by omega) (by simp only[maxLen];omega) (by omega)) ?_
 rintro v10 w10 ⟨hO5,hZI,e10,e10s⟩
 have ns10:=e10.size
 refine⟨(((Evo.drew _).then e9).then e10s),?_⟩
 refine WD.lL rfl rfl rfl (l_app Fo.h rfl rfl hO5 (Src.isB Fb.h hZI) (by omega) (by simp only[maxLen];omega) (by omega)) ?_
 rintro v11 w11 ⟨hO8,e11⟩
 have ns11:=e11.size
 refine WT.q rfl rfl (r_assign rfl)<|WT.nil<|WC.ret ?_
 replace hF:=(((hF.mono (Ext.drew _)).mono e9).mono e10).mono e11
 replace he:=((he.then e9).then e10).then e11
 exact fin1 rfl ⟨0::(bs++(u::ps[ki].2)),.desc rfl qB quP,(hO8.cast (by simp;omega) (by simp only[bc,List.flatMap_cons,List.flatMap_nil,List.append_nil,List.map_cons,List.map_append,List.append_assoc];rfl)).low (by omega),hF,he.weaken fun b hb h=>⟨hb,h⟩⟩
mutual
theorem mZ:∀x:V,gn x
 | .mk k n t ks o d=>fun cx fb w hx hF hv hW=>by
  have hP:ol (.mk k n t ks o d):=fU (oz ks)
  have hW0:=hW
  rw[Wt]at hW0
  rcases hW0.2.2.2.2.2.1 with hd|⟨c,hc,hd⟩
  ·exact fO hP hd cx fb w hx hF hv hW
  ·exact lc hP hc hd (fO (d:=[]) (fU (x:=uV c) (fun y hy=>by cases hy)) rfl) cx fb w hx hF hv hW
theorem oz:∀l:List V,∀x∈l,gn x
 |[],x,hx=>by cases hx
 |a::r,x,hx=>by
  rcases List.mem_cons.1 hx with e|hx
  ·exact e▸mZ a
  ·exact oz r x hx
end
end Go.Proofs.LL
