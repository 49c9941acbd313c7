/- Contracts of functions and own laws. Conditions: those that each theorem states. -/
import Derived.Test.YtdgbmbjkbmpcbaaGreatDoorV43
set_option linter.all false
set_option autoImplicit true
set_option relaxedAutoImplicit true
set_option maxRecDepth 20000
namespace Go.Proofs.LL
open Go Go.Proofs Go.RowKit
set_option maxHeartbeats 4000000
attribute [local irreducible] ar WL WC cq WT WX
theorem vI{A:Prop}(h:A:=by
 obtain⟨b1,o1,c1,rfl,q1,hA1,l1,hR1⟩:=hK.kid qi
 have hta:=pM qi
 have htl:=dG ks (i+1)
 obtain⟨x0,x1,x2,x3,x4,x5,rfl⟩:=hR1.six
 have q1c:=hR1.one
 refine jA 2 rfl<|lT rfl rfl<|jD 8 rfl<|ix rfl rfl rfl<|Hq (ad Fo.h rfl Xr hA1 (hn:=rfl)) ?_
 replace he:=he.t hE
 have:=he.s
 replace hb1:=hb1.m hE
 have:=hb1.lt
 refine Ha fun w2 hb2 e2=>?_
 have:=hb2.lt
 have:=e2.s
 refine Ho rfl rfl hb2 fun w3 hb2 e3 hz3=>?_
 have:=e3.s
 refine jD 3 rfl<|la rfl hb2<|jC 1 rfl ?_
 replace hF:=hF.m (e2.t e3)
 replace hR1:=hR1.m (e2.t e3)
 refine cl rfl (hks _ (bf qi) _ _ _ (hR1.k fun b h=>h.2) hF (by omega) (hW.mem _ (bf qi))) ?_
 rintro v4 w4 ⟨bs,qB,hP,hF,e4⟩
 have nvB:=qB.vol
 have hP0:=hP
 obtain⟨q4,c4,hq4,_,_⟩:=hP0.form
 subst hq4
 have:=e4.s
 replace hD:=(hD.m (e2.t e3)).m e4
 refine WL.l rfl (bz Fo.h rfl rfl hD (Src.own Fb.h hP (by omega) (nn _)) (by omega) (by simp only[maxLen];omega) (by omega)) ?_
 rintro v5 w5 ⟨hD,e5⟩
 have:=e5.s
 refine jD 3 rfl<|ai rfl rfl rfl<|jC 2 rfl ?_
 have qD2:aT N1 5 1 w5 v5 (dat++bs).length (bc (dat++bs)):=by rw[bC,List.length_append];exact hD
 replace hF:=hF.m e5
 exact⟨(i+1,_),sb,sb,⟨⟨_,qE.take qi qB,qD2⟩,hF,qi,((((hE.t (e2.t e3)).t e4).t e5))⟩,(by show ks.length-(i+1)<ks.length-i;omega)⟩):A:=h
theorem AO{A:Prop}(h:A:=by
 replace hF:=hF.m e2
 replace he:=(he.t hE).t e2
 exact aw rfl ⟨⟨_,qG,hX3.low fun b h=>by show w.heap.size≤b;omega⟩,hF,he.k fun b hb h=>⟨hb,h⟩⟩):A:=h
theorem AP{A:Prop}(h:A:=by
 obtain⟨u',hd,e1,e2,hH⟩:=ra (c8:=192) (c32:=208) rfl rfl nEl (by omega) (by omega) hp
 exact⟨u',e1,by rw[e2];exact .list qE hH⟩):A:=h
theorem bw.snoc:∀ {l:List V} {a:List UInt8} {x:V} {b:List UInt8},bw l a→g8 x b→bw (l++[x]) (a++b)
 |[],a,x,b,h,hx=>by cases h;have:=bw.cons hx bw.nil;simpa using this
 |y::r,a,x,b,h,hx=>by
  cases h with
  |cons h1 h2=>
   have:=bw.cons h1 (bw.snoc h2 hx)
   rw[List.append_assoc];exact this
theorem bg.oneAll:∀ {ps:List ie} {cs:List Value},bg A w ps cs→cs.all (fun v=>v.oneCell')=true
 |[],cs,h=>by simp only[bg]at h;subst h;rfl
 |p::r,cs,h=>by
  simp only[bg]at h
  obtain⟨dv,cs',rfl,hI,h2⟩:=h
  obtain⟨q,c,rfl,_,_⟩:=hI
  have:=bg.oneAll h2
  simp only[List.all_cons,this,Bool.and_true]
  rfl
theorem bw.take{l:List V}(h:bw (l.take i) a)(hi:i<l.length)(hx:g8 (bA l i) b):bw (l.take (i+1)) (a++b):=by
 rw[← List.take_append_getElem hi,bW hi];exact h.snoc hx
theorem sY{ks:List V}{o:Int}{cx:List Value}(hks:∀x∈ks,pV x)(hx:aC (fun b=>b≠fb) w (.mk 21 n t ks o d) cx)(hF:Fm w fb)(hv:vol (.mk 21 n t ks o d)≤1000000000)(hW:g9 ks)(hl:ks.length≤1000)(hne:0<ks.length):
  ah TP 62 [.pointer (some ⟨fb,0,none⟩),.agg cx.toArray] w fun r w'=>iZ w.heap.size (.mk 21 n t ks o d) r w'∧Fm w' fb∧am (fun k=>k≠fb) w w':=by
 obtain⟨pk,ck,pd,cd,rfl,_,_,hK,_⟩:=hx.openV
 have:=hF.lt
 rw[vol]at hv
 have hvk:=jx ks
 replace hK:=hK.weakW (B:=fun b=>b<w.heap.size∧b≠fb) (fun b hb h=>⟨hb,h⟩)
 refine aR Tryz.func62 ?_
 have he:am (fun b=>b<w.heap.size∧b≠fb) w w:=am.refl w
 refine jA 2 rfl ?_
 have:=he.s
 refine Hb rfl fun w1 hb1 e1=>?_
 have:=hb1.lt
 have:=e1.s
 refine jD 6 rfl<|ld rfl hb1 rfl<|jD 61 rfl<|ld rfl hb1 rfl<|jD 4 rfl ?_
 obtain⟨N1,eN1⟩:∃M,M=w1.heap.size:=⟨_,rfl⟩
 replace hK:=hK.m e1
 replace hF:=hF.m e1
 replace he:=he.t e1
 refine WC.loop2 (ι:=(Nat×Value)) [(0,_),(3,_),(4,_),(61,_),(62,_)] (fun i=>[(5,i.2),(63,.int .i64 (i.1:Int))]) (fun i wi=>(∃dat,bw (ks.take i.1) dat∧aT N1 5 1 wi i.2 dat.length (bc dat))∧Fm wi fb∧i.1≤ks.length∧am (fun b=>b<N1∧b≠fb) w1 wi) (fun i=>ks.length-i.1) (0,.slice none 0 0) sb sb (⟨⟨[],bw.nil,aT.nil _ _ _ _⟩,hF,Nat.zero_le _,am.refl _⟩) ?_
 intro i wi1 hh;obtain⟨⟨dat,qE,hD⟩,hF,ni,hE⟩:=hh
 obtain⟨i,dv⟩:=i
 dsimp only at qE hD ni
 have:=hE.s
 have nvE:=qE.vol
 have nvt:=dG ks i
 rcases Nat.lt_or_ge i ks.length with qi|qi
 replace hK:=hK.m hE
 ·exact vI
 ·have hil:i=ks.length:=by omega
  have htk:ks.take i=ks:=by rw[hil,List.take_length]
  rw[htk]at qE nvE
  have nEl:=qE.len
  have hD0:=hD
  obtain⟨q8,c8,hq8,_,_⟩:=hD0.form
  subst hq8
  have qGm:∀p∈gi 192 208 dat (some ks.length),mS (.mk 21 n t ks o d) p:=fun p hp=>by
   exact AP
  refine jA 2 rfl<|lF rfl rfl<|jD 3 rfl<|WC.exit<|jA 4 rfl ?_
  replace hb1:=hb1.m hE
  refine ld rfl hb1 rfl<|jD 4 rfl<|jA 4 rfl<|ld rfl hb1 rfl<|jC 1 rfl<|cl rfl (dW (c:=some ks.length) (hD.toB (A:=fun _=>True) (fun _ _ _=>trivial)) (by omega) (fun n h=>by cases h;omega)) ?_
  rintro v2 w2 ⟨hL,e2⟩
  have:=e2.s
  refine jD 6 rfl ?_
  replace hb1:=hb1.m e2
  refine ld rfl hb1 rfl<|jC 1 rfl<|Hq (ae (ak rfl rfl) (bk (by(omega))))<|jD 3 rfl<|jA 5 rfl<|WC.ret ?_
  have hX3:=hL.toX
  have qG:wS (.mk 21 n t ks o d) (gi 192 208 dat (some ks.length)):=⟨qGm,Nat.le_trans fX (by omega),rc,fun h=>absurd h (by show¬dp 21;unfold dp;omega)⟩
  exact AO
theorem rh{ks:List V}{o:Int}{cx:List Value}(hks:∀x∈ks,pV x)(hx:aC (fun b=>b≠fb) w (.mk 21 n t ks o d) cx)(hF:Fm w fb)(hv:vol (.mk 21 n t ks o d)≤1000000000)(hW:g9 ks)(hl:ks.length≤1000)(hne:ks.length=0):
  ah TP 62 [.pointer (some ⟨fb,0,none⟩),.agg cx.toArray] w fun r w'=>iZ w.heap.size (.mk 21 n t ks o d) r w'∧Fm w' fb∧am (fun k=>k≠fb) w w':=by
 obtain⟨pk,ck,pd,cd,rfl,_,_,hK,_⟩:=hx.openV
 have:=hF.lt
 rw[vol]at hv
 have hvk:=jx ks
 replace hK:=hK.weakW (B:=fun b=>b<w.heap.size∧b≠fb) (fun b hb h=>⟨hb,h⟩)
 refine aR Tryz.func62 ?_
 have he:am (fun b=>b<w.heap.size∧b≠fb) w w:=am.refl w
 refine jA 2 rfl ?_
 have:=he.s
 refine Hb rfl fun w1 hb1 e1=>?_
 have:=hb1.lt
 have:=e1.s
 refine jD 6 rfl<|ld rfl hb1 rfl<|jD 61 rfl<|ld rfl hb1 rfl<|jD 4 rfl ?_
 obtain⟨N1,eN1⟩:∃M,M=w1.heap.size:=⟨_,rfl⟩
 replace hK:=hK.m e1
 replace hF:=hF.m e1
 replace he:=he.t e1
 refine WC.loop2 (ι:=(Nat×Value)) [(0,_),(3,_),(4,_),(61,_),(62,_)] (fun i=>[(5,i.2),(63,.int .i64 (i.1:Int))]) (fun i wi=>(∃dat,bw (ks.take i.1) dat∧aT N1 5 1 wi i.2 dat.length (bc dat))∧Fm wi fb∧i.1≤ks.length∧am (fun b=>b<N1∧b≠fb) w1 wi) (fun i=>ks.length-i.1) (0,.slice none 0 0) sb sb (⟨⟨[],bw.nil,aT.nil _ _ _ _⟩,hF,Nat.zero_le _,am.refl _⟩) ?_
 intro i wi1 hh;obtain⟨⟨dat,qE,hD⟩,hF,ni,hE⟩:=hh
 obtain⟨i,dv⟩:=i
 dsimp only at qE hD ni
 have:=hE.s
 have nvE:=qE.vol
 have nvt:=dG ks i
 rcases Nat.lt_or_ge i ks.length with qi|qi
 replace hK:=hK.m hE
 ·exact vI
 ·have hil:i=ks.length:=by omega
  have htk:ks.take i=ks:=by rw[hil,List.take_length]
  rw[htk]at qE nvE
  have nEl:=qE.len
  have hD0:=hD
  obtain⟨q8,c8,hq8,_,_⟩:=hD0.form
  subst hq8
  have qGm:∀p∈gi 192 208 dat (some ks.length),mS (.mk 21 n t ks o d) p:=fun p hp=>by
   exact AP
  have qn:ks=[]:=List.eq_nil_of_length_eq_zero hne
  have qL:∀(w:World) (r:Value) (N:Nat),A1 N w (gi 192 208 dat (some ks.length)) r→∃cs,aT N 152 2 w r (gi 192 208 dat (some ks.length)).length cs∧bg (fun b=>N≤b∧r.ownBlock≠some b) w (gi 192 208 dat (some ks.length)) cs∧cs.all (fun v=>v.oneCell')=true:=fun w r N ⟨cs,h1,h2⟩=>⟨cs,h1,h2,h2.oneAll⟩
  have nLl:=fX (s:=192) (l:=208) (d:=dat) (c:=some ks.length)
  refine jA 2 rfl<|lF rfl rfl<|jD 3 rfl<|WC.exit<|jA 4 rfl ?_
  replace hb1:=hb1.m hE
  refine ld rfl hb1 rfl<|jD 4 rfl<|jA 4 rfl<|ld rfl hb1 rfl<|jC 1 rfl<|cl rfl (dW (c:=some ks.length) (hD.toB (A:=fun _=>True) (fun _ _ _=>trivial)) (by omega) (fun n h=>by cases h;omega)) ?_
  rintro v2 w2 ⟨hL,e2⟩
  obtain⟨cs,hZL,hZV0,oc⟩:=qL _ _ _ hL
  have hZV:=hZV0.weakenW (B:=fun b=>w.heap.size≤b∧b<w2.heap.size) (fun b hb h=>⟨by have:=h.1;omega,hb⟩)
  have:=e2.s
  refine jD 6 rfl ?_
  replace hb1:=hb1.m e2
  refine ld rfl hb1 rfl<|jC 1 rfl<|Hq (ae (ak rfl rfl) (br (by(omega))))<|jD 3 rfl<|Hq (az (cs:=[_,_]) Fo.h rfl rfl)<|WL.l rfl (cZ (vs:=[_]) Fo.h rfl rfl rfl rfl rfl) ?_
  rintro v3 w3 ⟨rfl,hOl,e3⟩
  have:=e3.s
  refine jC 1 rfl ?_
  replace hZL:=hZL.m e3
  refine WL.l rfl (bz Fo.h rfl rfl hOl (Src.own Fb.h hZL (by omega) oc) (by omega) (by simp only[maxLen];omega) (by omega)) ?_
  rintro v4 w4 ⟨hOf,e4⟩
  have:=e4.s
  refine jD 7 rfl<|WC.ret ?_
  have qG:wS (.mk 21 n t ks o d) ([(0x45,[])]++gi 192 208 dat (some ks.length)):=⟨fun p hp=>by
   rcases List.mem_append.1 hp with h|h
   ·rw[List.mem_singleton.1 h];exact⟨0x45,rfl,by rw[qn];exact .list0⟩
   ·exact qGm p h,by rw[List.length_append,List.length_singleton];omega,by simp,fun h=>absurd h (by show¬dp 21;unfold dp;omega)⟩
  replace hF:=((hF.m e2).m e3).m e4
  replace hZV:=(hZV.m e3).m e4
  replace he:=(((he.t hE).t e2).t e3).t e4
  exact aw rfl ⟨⟨_,qG,ei.own hOf (by rw[List.length_append,List.length_singleton]) (bg.append (bg.one (p:=(0x45,[])) bT.nil) (hZV.k fun b h=>h.1)) (fun b hb=>by show w.heap.size≤b;omega)⟩,hF,he.k fun b hb h=>⟨hb,h⟩⟩
theorem sZ{ks:List V}{o:Int}{cx:List Value}(hks:∀x∈ks,pV x)(hx:aC (fun b=>b≠fb) w (.mk 22 n t ks o d) cx)(hF:Fm w fb)(hv:vol (.mk 22 n t ks o d)≤1000000000)(hW:g9 ks)(hl:ks.length≤1000):
  ah TP 62 [.pointer (some ⟨fb,0,none⟩),.agg cx.toArray] w fun r w'=>iZ w.heap.size (.mk 22 n t ks o d) r w'∧Fm w' fb∧am (fun k=>k≠fb) w w':=by
 obtain⟨pk,ck,pd,cd,rfl,_,_,hK,_⟩:=hx.openV
 have:=hF.lt
 rw[vol]at hv
 have hvk:=jx ks
 replace hK:=hK.weakW (B:=fun b=>b<w.heap.size∧b≠fb) (fun b hb h=>⟨hb,h⟩)
 refine aR Tryz.func62 ?_
 have he:am (fun b=>b<w.heap.size∧b≠fb) w w:=am.refl w
 refine jA 2 rfl ?_
 have:=he.s
 refine Hb rfl fun w1 hb1 e1=>?_
 have:=hb1.lt
 have:=e1.s
 refine jD 6 rfl<|ld rfl hb1 rfl<|jD 64 rfl<|ld rfl hb1 rfl<|jD 4 rfl ?_
 obtain⟨N1,eN1⟩:∃M,M=w1.heap.size:=⟨_,rfl⟩
 replace hK:=hK.m e1
 replace hF:=hF.m e1
 replace he:=he.t e1
 refine WC.loop2 (ι:=(Nat×Value)) [(0,_),(3,_),(4,_),(61,_),(62,_)] (fun i=>[(5,i.2),(63,.int .i64 (i.1:Int))]) (fun i wi=>(∃dat,bw (ks.take i.1) dat∧aT N1 5 1 wi i.2 dat.length (bc dat))∧Fm wi fb∧i.1≤ks.length∧am (fun b=>b<N1∧b≠fb) w1 wi) (fun i=>ks.length-i.1) (0,.slice none 0 0) sb sb (⟨⟨[],bw.nil,aT.nil _ _ _ _⟩,hF,Nat.zero_le _,am.refl _⟩) ?_
 intro i wi1 hh;obtain⟨⟨dat,qE,hD⟩,hF,ni,hE⟩:=hh
 obtain⟨i,dv⟩:=i
 dsimp only at qE hD ni
 have:=hE.s
 have nvE:=qE.vol
 have nvt:=dG ks i
 rcases Nat.lt_or_ge i ks.length with qi|qi
 replace hK:=hK.m hE
 ·exact vI
 ·have hil:i=ks.length:=by omega
  have htk:ks.take i=ks:=by rw[hil,List.take_length]
  rw[htk]at qE nvE
  have nEl:=qE.len
  have hD0:=hD
  obtain⟨q8,c8,hq8,_,_⟩:=hD0.form
  subst hq8
  have qGm:∀p∈gi 193 209 dat (some ks.length),mS (.mk 22 n t ks o d) p:=fun p hp=>by
   obtain⟨u',hd,e1,e2,hH⟩:=ra (c8:=193) (c32:=209) rfl rfl nEl (by omega) (by omega) hp
   exact⟨u',e1,by rw[e2];exact .map qE hH⟩
  refine jA 2 rfl<|lF rfl rfl<|jD 3 rfl<|WC.exit<|jA 4 rfl ?_
  replace hb1:=hb1.m hE
  refine ld rfl hb1 rfl<|jD 7 rfl<|ld rfl hb1 rfl<|jC 1 rfl<|cl rfl (dW (c:=some ks.length) (hD.toB (A:=fun _=>True) (fun _ _ _=>trivial)) (by omega) (fun n h=>by cases h;omega)) ?_
  rintro v2 w2 ⟨hL,e2⟩
  have:=e2.s
  refine jC 2 rfl<|WC.ret ?_
  have hX3:=hL.toX
  have qG:wS (.mk 22 n t ks o d) (gi 193 209 dat (some ks.length)):=⟨qGm,Nat.le_trans fX (by omega),rc,fun h=>absurd h (by show¬dp 22;unfold dp;omega)⟩
  exact AO
theorem BO{o:Int}{cx:List Value}{kk:Int}(hx:aC (fun b=>b≠fb) w (.mk 23 n t ks o d) cx)(hF:Fm w fb)(hv:vol (.mk 23 n t ks o d)≤1000000000)(hne:0<ks.length)(hl:ks.length≤1000)(hkk:dp kk)(hall:∀x∈ks,x.kind=kk∧bI x):
  ah TP 62 [.pointer (some ⟨fb,0,none⟩),.agg cx.toArray] w fun r w'=>iZ w.heap.size (.mk 23 n t ks o d) r w'∧Fm w' fb∧am (fun k=>k≠fb) w w':=by
 have hx0:=hx
 obtain⟨pk,ck,pd,cd,rfl,_,_,_,_⟩:=hx0.openV
 have:=hF.lt
 refine aR Tryz.func62 ?_
 refine jA 2 rfl<|Hb rfl fun w1 hb1 e1=>?_
 have:=hb1.lt
 have:=e1.s
 refine jD 6 rfl<|ld rfl hb1 rfl<|jD 65 rfl<|Hq (ad Fo.h rfl Xr hb1.at (hn:=rfl)) ?_
 replace hx:=hx.m e1
 replace hF:=hF.m e1
 refine cl rfl (yx hx hF hv hne hl hkk hall) ?_
 rintro v2 w2 ⟨⟨ps,qG,hX⟩,hF,e2⟩
 have:=e2.s
 refine jC 2 rfl<|WC.ret ?_
 exact aw rfl ⟨⟨ps,qG,hX.low fun b h=>by show w.heap.size≤b;omega⟩,hF,ch⟩
theorem pB{x:V}(hks:∀y∈x.kids,pV y):A2 x:=by
 intro cx fb w hx hF hv hW
 obtain⟨k,n,t,ks,o,d⟩:=x
 rw[Wt]at hW
 obtain⟨w1,w2,w3,w4,w5,w6,w7,w8⟩:=hW
 have:=hF.lt
 have hv':=hv
 rw[vol]at hv'
 rcases(show((0≤k∧k≤11)∨(16≤k∧k≤20))∨k=21∨k=22∨k=23 by omega)with h|rfl|rfl|rfl
 ·refine(mx h _ n t ks o d cx fb w hx w4.2.2.2.2.2.2.2.2 w4.1 (by omega)).imp fun r w' hr=>?_
  exact⟨hr.1,hF.m hr.2,hr.2.k fun _ _ _=>trivial⟩
 ·rcases Nat.eq_zero_or_pos ks.length with h0|h0
  ·exact rh hks hx hF hv (w7 (.inl rfl)) w5 h0
  ·exact sY hks hx hF hv (w7 (.inl rfl)) w5 h0
 ·exact sZ hks hx hF hv (w7 (.inr rfl)) w5
 ·obtain⟨h0,kk,h1,h2⟩:=w8 rfl
  exact BO hx hF hv (List.length_pos_iff.2 h0) w5 h1 h2
theorem y8(C:Nat→Prop){pv:Value}{e z bs:Nat}{zv v:Value}(hI:bT A w pv l)(hA:∀b,A b→v.ownBlock≠some b)(hC:∀k,C k→v.ownBlock≠some k)(ht:fG P t=some (e,z,bs,zv))(hs:ov ρ s=some v)(hx:ov ρ x=some u)(hown:aT B e z w v n xs)(hsrc:Src P z tx u m news w)(hB:B≤w.heap.size)(h63:n+m≤maxLen)(hbytes:(n+m) * bs≤140737488355328):
  aA P (.call ⟨.builtin .append, #[s,x], #[t,tx]⟩) ty ρ w (fun v' w'=>aT B e z w' v' (n+m) (xs++news)∧bT A w' pv l∧am (fun k=>k<B) w w'∧am C w w'):=
 (eF ht hs hx hown hsrc hB h63 hbytes).imp fun v' w' ⟨h1,h2,_⟩=>⟨h1,hI.m h2 (fun b _ h=>hA b h),hown.evo (w0:=w) h2,h2.k fun k _ h=>hC k h⟩
theorem aT.cast{B e z n m:Nat}{w:World}{v:Value}{xs ys:List Value}(h:aT B e z w v n xs)(hn:n=m)(hx:xs=ys):aT B e z w v m ys:=hn▸hx▸h
theorem pC{k:Int}{o:Int}(hP:A2 (.mk k n t ks o d))(hd:d=[]):pV (.mk k n t ks o d):=by
 intro cx fb w hx hF hv hW
 subst hd
 have hx0:=hx
 obtain⟨pk,ck,pd,cd,rfl,_,_,_,hD⟩:=hx0.openV
 have hfl:=hF.lt
 have hxw:=hx.weakenW (B:=fun b=>b<w.heap.size∧b≠fb) (fun b hb h=>⟨hb,h⟩)
 have hvv:=hv
 rw[vol]at hvv
 refine aR Tryz.func34 ?_
 have he:am (fun b=>b<w.heap.size∧b≠fb) w w:=am.refl w
 refine jA 2 rfl ?_
 have hs1:=he.s
 refine Hb rfl fun w1 hb1 e1=>?_
 have nx1:=hb1.lt
 have ns1:=e1.s
 refine jD 10 rfl<|ld rfl hb1 rfl<|jC 1 rfl<|Hq (ae (aS rfl rfl) (decide_eq_false (by(simp))))<|jD 3 rfl<|jA 3 rfl<|Hq (ad Fo.h rfl Xr hb1.at (hn:=rfl)) ?_
 replace hxw:=hxw.m e1
 replace hF:=hF.m e1
 refine cl rfl (hP _ _ _ (hxw.k fun b h=>h.2) hF hv hW) ?_
 rintro v2 w2 ⟨⟨ps,qG,hX⟩,hF,e2⟩
 have hX0:=hX
 obtain⟨pp,pc,pcs,hpv,_⟩:=hX0
 subst hpv
 have qpos:0<ps.length:=List.length_pos_iff.2 qG.ne
 have qlen:=qG.len
 have ns2:=e2.s
 refine jD 8 rfl<|cl rfl (jM hF (by omega) (by omega)) ?_
 rintro v3 w3 ⟨⟨ki,qki,rfl⟩,hF,e3⟩
 have hX2:=hX.m e3 (fun b _ hb2=>by have:_≤b:=hb2;show b≠fb;omega)
 obtain⟨b2,o2,pv,hpe,qb2,hZA,hZI,qov⟩:=hX2.kid qki
 subst hpe
 obtain⟨u,quc,quP⟩:=qG.all _ (List.getElem_mem qki)
 have nuE:=quP.vol1 (fun body h=>bw.vol h) (fun c' body h=>bY.vol h)
 have ns3:=e3.s
 refine ix rfl rfl rfl<|Hq (ad Fo.h rfl Xr hZA (hn:=rfl)) ?_
 replace he:=((he.t e1).t e2).t e3
 have hs4:=he.s
 replace hb1:=(hb1.m e2).m e3
 have hx4b1:=hb1.lt
 refine Ha fun w4 hb4 e4=>?_
 have nx4:=hb4.lt
 have ns4:=e4.s
 refine Ho rfl rfl hb4 fun w5 hb4 e5 hz5=>?_
 have ns5:=e5.s
 refine WL.nil ?_
 replace hxw:=((hxw.m e2).m e3).m (e4.t e5)
 replace hF:=hF.m (e4.t e5)
 replace hb1:=hb1.m (e4.t e5)
 replace hX:=(hX.m e3).m (e4.t e5)
 replace hZA:=hZA.m (e4.t e5)
 replace hZI:=hZI.m (e4.t e5)
 refine WC.seq<|WC.regionDL 8 (tt [0,1,2,3,6,7]++ff [4,5,8]++tt [9]) (ay _) mixed (by kernel_rfl) Xd ?_
 have nd1w5:w5.drew.heap.size=w5.heap.size:=rfl
 refine jE 2 rfl<|dl rfl hb4 rfl<|He (fun _ hS=>bp (m:=(u.toNat:Int)) Fo.h rfl (by rw[quc];exact El u))<|jE 1 rfl<|dl rfl hb4 rfl ?_
 replace he:=(he.t (e4.t e5)).t Xd
 have hs6:=he.s
 replace hb1:=hb1.m Xd
 have hx6b1:=hb1.lt
 replace hb4:=hb4.m Xd
 have hx6b4:=hb4.lt
 refine WD.l rfl rfl (ll [_]) ?_
 rintro _ w6 ⟨rfl,hb6,e6⟩
 have ns6:=e6.s
 refine⟨(Vd.t e6),?_⟩
 refine WD.l rfl rfl (y8 (fun _=>True) ((hZI.m Xd).m e6) (fun _ _=>by simp[Value.ownBlock]) (fun _ _=>by simp[Value.ownBlock]) Fo.h rfl rfl (aT.nil w.heap.size 5 1 _) (Src.at Fb.h hb6.at rfl rfl) (by omega) (by simp only[maxLen];omega) (by omega)) ?_
 rintro v7 w7 ⟨hO5,hZI,e7,e7s⟩
 have ns7:=e7.s
 refine⟨((Vd.t e6).t e7s),?_⟩
 refine WD.lL rfl rfl rfl (bz Fo.h rfl rfl hO5 (Src.isB Fb.h hZI) (by omega) (by simp only[maxLen];omega) (by omega)) ?_
 rintro v8 w8 ⟨hO8,e8⟩
 have ns8:=e8.s
 refine WT.q rfl rfl (ap rfl)<|WT.nil<|WC.ret ?_
 replace hF:=(((hF.m Xd).m e6).m e7).m e8
 replace he:=((he.t e6).t e7).t e8
 exact aw rfl ⟨u::ps[ki].2,.plain rfl quP,hO8.cast (by simp;omega) rfl,hF,he.k fun b hb h=>⟨hb,h⟩⟩
theorem zD{k:Int}{o:Int}(hP:A2 (.mk k n t ks o d))(hc:c<18446744073709551616)(hd:d=[uV c])(hY:pV (uV c)):pV (.mk k n t ks o d):=by
 intro cx fb w hx hF hv hW
 subst hd
 have hx0:=hx
 obtain⟨pk,ck,pd,cd,rfl,_,_,_,hD⟩:=hx0.openV
 have hfl:=hF.lt
 have hxw:=hx.weakenW (B:=fun b=>b<w.heap.size∧b≠fb) (fun b hb h=>⟨hb,h⟩)
 have hvv:=hv
 rw[vol]at hvv
 obtain⟨b1,o1,c1,rfl,q1,hA1,l1,hR1⟩:=hD.kid (i:=0) (by simp)
 have hR1:aC (fun b=>b≠fb) w (uV c) c1:=hR1
 have nvu:bF [uV c]=vol (uV c):=by rw[bF,bF];omega
 have q1l:b1<w.heap.size:=by
  obtain⟨x0,x1,x2,x3,x4,x5,e⟩:=hR1.six
  rw[e]at hA1
  exact bD (hA1.get (j:=0) rfl)
 refine aR Tryz.func34 ?_
 have he:am (fun b=>b<w.heap.size∧b≠fb) w w:=am.refl w
 refine jA 2 rfl ?_
 have hs1:=he.s
 refine Hb rfl fun w1 hb1 e1=>?_
 have nx1:=hb1.lt
 have ns1:=e1.s
 refine jD 10 rfl<|ld rfl hb1 rfl<|jC 1 rfl<|Hq (ae (aS rfl rfl) (decide_eq_true (by(simp))))<|jD 3 rfl<|WL.l rfl (cZ (vs:=[_]) Fo.h rfl rfl rfl rfl rfl) ?_
 rintro v2 w2 ⟨rfl,hOl,e2⟩
 have ns2:=e2.s
 refine jC 1 rfl ?_
 replace hb1:=hb1.m e2
 refine ld rfl hb1 rfl<|ix rfl rfl rfl ?_
 replace hA1:=(hA1.m e1).m e2
 refine Hq (ad Fo.h rfl Xr hA1 (hn:=l1))<|jC 1 rfl ?_
 replace hF:=(hF.m e1).m e2
 replace hR1:=(hR1.m e1).m e2
 refine cl rfl (hY _ _ _ hR1 hF (by omega) (lA (by omega) (by omega) (by omega) (by omega) hc)) ?_
 rintro v3 w3 ⟨bs,qB,hPb,hF,e3⟩
 have nvB:=qB.vol
 have ns3:=e3.s
 replace hOl:=hOl.m e3
 refine WL.l rfl (bz Fo.h rfl rfl hOl (Src.own Fb.h hPb (by omega) (nn _)) (by omega) (by simp only[maxLen];omega) (by omega)) ?_
 rintro v4 w4 ⟨hOp,e4⟩
 have qOl:=hOp.lt
 obtain⟨q5,c5,hq5,_,hq6⟩:=hOp.form
 obtain⟨g5,hq7,ng5,ng6,_⟩:=hq6 (by omega)
 subst hq7
 subst hq5
 have ns4:=e4.s
 refine jD 5 rfl ?_
 replace hb1:=(hb1.m e3).m e4
 refine Hq (ad Fo.h rfl Xr hb1.at (hn:=rfl)) ?_
 replace hxw:=(((hxw.m e1).m e2).m e3).m e4
 replace hF:=hF.m e4
 refine cl rfl (hP _ _ _ (hxw.k fun b h=>h.2) hF hv hW) ?_
 rintro v5 w5 ⟨⟨ps,qG,hX⟩,hF,e5⟩
 have hX0:=hX
 obtain⟨pp,pc,pcs,hpv,_⟩:=hX0
 subst hpv
 have qpos:0<ps.length:=List.length_pos_iff.2 qG.ne
 have qlen:=qG.len
 have ns5:=e5.s
 refine jD 8 rfl<|cl rfl (jM hF (by omega) (by omega)) ?_
 rintro v6 w6 ⟨⟨ki,qki,rfl⟩,hF,e6⟩
 have hX2:=hX.m e6 (fun b _ hb2=>by have:_≤b:=hb2;show b≠fb;omega)
 obtain⟨b2,o2,pv,hpe,qb2,hZA,hZI,qov⟩:=hX2.kid qki
 subst hpe
 obtain⟨u,quc,quP⟩:=qG.all _ (List.getElem_mem qki)
 have nuE:=quP.vol1 (fun body h=>bw.vol h) (fun c' body h=>bY.vol h)
 have ns6:=e6.s
 refine ix rfl rfl rfl<|Hq (ad Fo.h rfl Xr hZA (hn:=rfl)) ?_
 replace he:=(((((he.t e1).t e2).t e3).t e4).t e5).t e6
 have hs7:=he.s
 replace hb1:=(hb1.m e5).m e6
 have hx7b1:=hb1.lt
 refine Ha fun w7 hb7 e7=>?_
 have nx7:=hb7.lt
 have ns7:=e7.s
 refine Ho rfl rfl hb7 fun w8 hb7 e8 hz8=>?_
 have ns8:=e8.s
 refine WL.nil ?_
 replace hxw:=((hxw.m e5).m e6).m (e7.t e8)
 replace hF:=hF.m (e7.t e8)
 replace hb1:=hb1.m (e7.t e8)
 replace hOp:=((hOp.m e5).m e6).m (e7.t e8)
 replace hX:=(hX.m e6).m (e7.t e8)
 replace hZA:=hZA.m (e7.t e8)
 replace hZI:=hZI.m (e7.t e8)
 refine WC.seq<|WC.regionDL 8 (tt [0,1,2,3,6,7]++ff [4,5,8]++tt [9]) (am (fun k=>k≠g5) _) mixed (by kernel_rfl) Vd ?_
 have nd1w8:w8.drew.heap.size=w8.heap.size:=rfl
 refine jE 2 rfl<|dl rfl hb7 rfl<|He (fun _ hS=>bp (m:=(u.toNat:Int)) Fo.h rfl (by rw[quc];exact El u))<|jE 1 rfl<|dl rfl hb7 rfl ?_
 replace he:=(he.t (e7.t e8)).t Xd
 have hs9:=he.s
 replace hb1:=hb1.m Xd
 have hx9b1:=hb1.lt
 replace hb7:=hb7.m Xd
 have hx9b7:=hb7.lt
 refine WD.l rfl rfl (ll [_]) ?_
 rintro _ w9 ⟨rfl,hb9,e9⟩
 have ns9:=e9.s
 refine⟨(Vd.t e9),?_⟩
 refine WD.l rfl rfl (y8 (fun k=>k≠g5) ((hZI.m Xd).m e9) (fun b hb e=>by have:=qOl b e;have:_≤b:=hb;omega) (by intro k h e;exact h (Option.some.inj e).symm) Fo.h rfl rfl (((hOp.m Xd).m e9)) (Src.at Fb.h hb9.at rfl rfl) (by omega) (by simp only[maxLen];omega) (by omega)) ?_
 rintro v10 w10 ⟨hO5,hZI,e10,e10s⟩
 have ns10:=e10.s
 refine⟨((Vd.t e9).t e10s),?_⟩
 refine WD.lL rfl rfl rfl (bz Fo.h rfl rfl hO5 (Src.isB Fb.h hZI) (by omega) (by simp only[maxLen];omega) (by omega)) ?_
 rintro v11 w11 ⟨hO8,e11⟩
 have ns11:=e11.s
 refine WT.q rfl rfl (ap rfl)<|WT.nil<|WC.ret ?_
 replace hF:=(((hF.m Xd).m e9).m e10).m e11
 replace he:=((he.t e9).t e10).t e11
 exact aw rfl ⟨0::(bs++(u::ps[ki].2)),.desc rfl qB quP,(hO8.cast (by simp;omega) (by simp only[bc,List.flatMap_cons,List.flatMap_nil,List.append_nil,List.map_cons,List.map_append,List.append_assoc];rfl)).low (by omega),hF,he.k fun b hb h=>⟨hb,h⟩⟩
mutual
theorem BP:∀x:V,pV x
 | .mk k n t ks o d=>fun cx fb w hx hF hv hW=>by
  have hP:A2 (.mk k n t ks o d):=pB (Co ks)
  have hW0:=hW
  rw[Wt]at hW0
  rcases hW0.2.2.2.2.2.1 with hd|⟨c,hc,hd⟩
  ·exact pC hP hd cx fb w hx hF hv hW
  ·exact zD hP hc hd (pC (d:=[]) (pB (x:=uV c) (fun y hy=>by cases hy)) rfl) cx fb w hx hF hv hW
theorem Co:∀l:List V,∀x∈l,pV x
 |[],x,hx=>by cases hx
 |a::r,x,hx=>by
  rcases List.mem_cons.1 hx with e|hx
  ·exact e▸BP a
  ·exact Co r x hx
end
end Go.Proofs.LL
