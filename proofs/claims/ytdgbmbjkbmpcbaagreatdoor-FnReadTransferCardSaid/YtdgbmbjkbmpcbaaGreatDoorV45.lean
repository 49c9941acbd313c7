/- Contracts of functions and own laws. Conditions: those that each theorem states. -/
import Derived.Test.YtdgbmbjkbmpcbaaGreatDoorV44
set_option linter.all false
set_option autoImplicit true
set_option relaxedAutoImplicit true
set_option maxRecDepth 20000
namespace Go.Proofs.LL
open Go Go.Proofs Go.RowKit
set_option maxHeartbeats 4000000
attribute [local irreducible] ar WL WC cq WT WX
theorem cV{k n:Int}:ah TP 44 [.int .i64 k,.int .u64 n] w fun r w'=>r= .agg #[.int .i64 k,.int .u64 n,str [],.slice none 0 0,.int .i64 0,.slice none 0 0]∧ay w w':=by
 refine co Tryz.func44 ?_
 have he:=XI w
 refine jA 2 rfl ?_
 have:=he.s
 refine Ha fun w1 hb1 e1=>?_
 refine jD 5 rfl<|Hq (az (cs:=[_,_,_,_,_,_]) Fo.h rfl rfl)<|Ho rfl rfl hb1 fun w2 hb1 e2 hz2=>?_
 refine WL.nil<|WC.ret ?_
 replace he:=he.t (e1.t e2)
 exact cO rfl hb1 bR ⟨rfl,he⟩
theorem dK(k k':Int)(n n':Nat)(t t':List UInt8):ag A w [pv k n t,pv k' n' t'] (vc k n t++vc k' n' t'):=by
 rw[ag]
 refine⟨_,_,rfl,lc k n t,?_⟩
 rw[ag]
 exact⟨_,[],rfl,lc k' n' t',by rw[ag]⟩
theorem rI{k:Int}:ah TP 59 [.int .i64 k,str s] w fun r w'=>∃cs,r= .agg cs.toArray∧(∀A,ag A w' [tV k s,aX] cs)∧ay w w':=by
 rcases Decidable.em (s=[])with h|h
 ·have e:tV k s=aX:=if_pos h
  rw[e]
  refine co Tryz.func59 ?_
  have he:=XI w
  refine jA 2 rfl ?_
  have hs1:=he.s
  refine Ha fun w1 hb1 e1=>?_
  refine jD 5 rfl<|Hq (k7 rfl rfl (h))<|jD 4 rfl<|Hq (az (cs:=[_,_,_,_,_,_,_,_,_,_,_,_]) Fo.h rfl rfl)<|Ho rfl rfl hb1 fun w2 hb1 e2 hz2=>?_
  refine WL.nil<|WC.ret ?_
  replace he:=he.t (e1.t e2)
  exact cO rfl hb1 eE ⟨_,rfl,fun A=>dK 0 0 0 0 [] [],he⟩
 ·have e:tV k s=pv k 0 s:=if_neg h
  rw[e]
  refine co Tryz.func59 ?_
  have he:=XI w
  refine jA 2 rfl ?_
  have hs1:=he.s
  refine Ha fun w1 hb1 e1=>?_
  refine jD 5 rfl<|Hq (ta rfl rfl (h))<|jD 3 rfl<|jA 4 rfl<|Hq (az (cs:=[_,_,_,_,_,_]) Fo.h rfl rfl)<|Hq (az (cs:=[_,_,_,_,_,_,_,_,_,_,_,_]) Fo.h rfl rfl)<|Ho rfl rfl hb1 fun w2 hb1 e2 hz2=>?_
  refine WL.nil<|WC.ret ?_
  replace he:=he.t (e1.t e2)
  exact cO rfl hb1 eE ⟨_,rfl,fun A=>dK k 0 0 0 s [],he⟩
theorem mv{l:List V}(hK:cM A w l.length (.slice p l.length c) (ag A w l)):ah TP 61 [.slice p l.length c] w fun r w'=>∃cs,r= .agg cs.toArray∧ag A w' [mV l,aX] cs∧ay w w':=by
 rcases Decidable.em (l=[])with h|h
 ·have e:mV l=aX:=if_pos h
  rw[e]
  refine co Tryz.func61 ?_
  have he:=XI w
  refine jA 2 rfl ?_
  have hs1:=he.s
  refine Ha fun w1 hb1 e1=>?_
  refine jD 6 rfl<|Hq (ae (ak rfl rfl) (br (by(rw[h];rfl))))<|jD 4 rfl<|Hq (az (cs:=[_,_,_,_,_,_,_,_,_,_,_,_]) Fo.h rfl rfl)<|Ho rfl rfl hb1 fun w2 hb1 e2 hz2=>?_
  refine WL.nil<|WC.ret ?_
  replace he:=he.t (e1.t e2)
  exact cO rfl hb1 eE ⟨_,rfl,dK 0 0 0 0 [] [],he⟩
 ·have e:mV l=dP l:=if_neg h
  have h0:0<l.length:=List.length_pos_iff.2 h
  rw[e]
  refine co Tryz.func61 ?_
  have he:=XI w
  refine jA 2 rfl ?_
  have hs1:=he.s
  refine Ha fun w1 hb1 e1=>?_
  refine jD 6 rfl<|Hq (ae (ak rfl rfl) (bk (by(omega))))<|jD 3 rfl<|jA 3 rfl<|Hq (az (cs:=[_,_,_,_,_,_]) Fo.h rfl rfl)<|Hq (az (cs:=[_,_,_,_,_,_,_,_,_,_,_,_]) Fo.h rfl rfl)<|Ho rfl rfl hb1 fun w2 hb1 e2 hz2=>?_
  refine WL.nil<|WC.ret ?_
  replace hK:=hK.m (e1.t e2)
  have hR:aC A w2 (dP l) _:=aC.mkK hK
  replace he:=he.t (e1.t e2)
  exact cO rfl hb1 eE ⟨_,rfl,by rw[ag];exact⟨_,_,rfl,hR,by rw[ag];exact⟨_,[],rfl,dO,by rw[ag]⟩⟩,he⟩
def lK(fs:List (V×V)):List V:=fs.flatMap eX
structure cW (A:Nat→Prop) (w:World) (code:Nat) (fs:List (V×V)) (cells:List Value):Prop where
 ex:∃p c xs,cells=[.int .u64 (code:Int),.slice p fs.length c]∧fs.length≤c∧ag A w (lK fs) xs∧(fs=[]∨∃b o,p=some ⟨b,o,none⟩∧A b∧At w b o xs)
theorem cW.m(h:cW A w code fs cells)(e:am B w w')(hAB:∀b,b<w.heap.size→A b→B b:=by(intro b hb1 hb2;first|exact trivial|exact hb2|exact hb2.2|((try dsimp only[Nb]at hb2⊢);omega))):cW A w' code fs cells:=by
 obtain⟨p,c,xs,h1,h2,h3,h4⟩:=h
 exact⟨p,c,xs,h1,h2,h3.m' e hAB,h4.imp id fun⟨b,o,e1,e2,e3⟩=>⟨b,o,e1,e2,e3.growP e hAB e2⟩⟩
theorem cW.low{B:Nat→Prop}(h:cW A w code fs cells)(hAB:∀b,A b→B b):cW B w code fs cells:=by
 obtain⟨p,c,xs,h1,h2,h3,h4⟩:=h
 exact⟨p,c,xs,h1,h2,h3.k hAB,h4.imp id fun⟨b,o,e1,e2,e3⟩=>⟨b,o,e1,hAB b e2,e3⟩⟩
theorem sD(fs:List (V×V)):(lK fs).length=2 * fs.length:=dE fs
theorem cW.lowW{B:Nat→Prop}(h:cW A w code fs cells)(hAB:∀b,b<w.heap.size→A b→B b):cW B w code fs cells:=by
 obtain⟨p,c,xs,h1,h2,h3,h4⟩:=h
 refine⟨p,c,xs,h1,h2,h3.weakenW hAB,?_⟩
 rcases h4 with h4|⟨b,o,e1,e2,e3⟩
 ·exact .inl h4
 ·rcases Nat.eq_zero_or_pos fs.length with h0|h0
  ·exact .inl (List.eq_nil_of_length_eq_zero h0)
  ·have hl:=h3.len
   rw[sD]at hl
   have hc:=e3 0 (by omega)
   rw[List.getElem?_eq_getElem (by omega)]at hc
   exact .inr ⟨b,o,e1,hAB b (bD hc) e2,e3⟩
theorem ag.at12:∀ {fs:List (V×V)} {xs:List Value} {i:Nat} (hi:i<fs.length),ag A w (lK fs) xs→∃pre c1 c2 post,xs=pre++((c1++c2)++post)∧pre.length=i * 12∧aC A w fs[i].1 c1∧aC A w fs[i].2 c2
 |[],_,i,hi,_=>absurd hi (by simp)
 |f::r,xs,0,hi,h=>by
  have h':ag A w (f.1::f.2::lK r) xs:=h
  rw[ag]at h'
  obtain⟨c1,c',rfl,h1,h2⟩:=h'
  rw[ag]at h2
  obtain⟨c2,c'',rfl,h3,h4⟩:=h2
  exact⟨[],c1,c2,c'',by simp,rfl,h1,h3⟩
 |f::r,xs,i+1,hi,h=>by
  have h':ag A w (f.1::f.2::lK r) xs:=h
  rw[ag]at h'
  obtain⟨c1,c',rfl,h1,h2⟩:=h'
  rw[ag]at h2
  obtain⟨c2,c'',rfl,h3,h4⟩:=h2
  obtain⟨pre,d1,d2,post,rfl,e2,h5,h6⟩:=ag.at12 (i:=i) (by simpa using hi) h4
  refine⟨c1++(c2++pre),d1,d2,post,by simp,?_,h5,h6⟩
  rw[List.length_append,List.length_append,h1.len,h3.len];omega
theorem At.pre{c d:List Value}(h:At w b o (c++d)):At w b o c:=fun j hj=>by
 rw[h j (by simp;omega),List.getElem?_append_left hj]
theorem At.suf{c d:List Value}(h:At w b o (c++d)):At w b (o+c.length) d:=fun j hj=>by
 have:=h (c.length+j) (by simp;omega)
 rw[List.getElem?_append_right (by omega)]at this
 rw[Nat.add_assoc,this];congr 1;omega
def dQ(code:Nat)(fs:List (V×V)):V:= .mk 21 0 [] (fs.map (·.1)) 0 [uV code]
theorem ag.pushG{R:Nat→Prop}{sv v5:Value}(hV:ag (fun b=>R b∧sv.ownBlock≠some b) wi ys cs)(hy:ag (fun b=>R b∧sv.ownBlock≠some b) wi ys' c')
  (e5:am (fun k=>sv.ownBlock≠some k) wi w5) (hob:v5.ownBlock=sv.ownBlock∨∀b,v5.ownBlock=some b→wi.heap.size≤b):ag (fun b=>R b∧v5.ownBlock≠some b) w5 (ys++ys') (cs++c'):=by
 have h1:ag (fun b=>(R b∧sv.ownBlock≠some b)∧b<wi.heap.size) wi (ys++ys') (cs++c'):=(hV.append hy).weakenW fun b hb h=>⟨h,hb⟩
 refine(h1.m' e5 (fun b _ h=>h.1.2)).k fun b h=>⟨h.1.1,fun e=>?_⟩
 rcases hob with h3|h3
 ·rw[h3]at e;exact h.1.2 e
 ·have:=h3 b e;omega
theorem DN{R:Nat→Prop}{bs:Nat}{zv:Value}(ht:fG P t=some (87,6,bs,zv))(hs:ov ρ s=some v)(hx:ov ρ x=some u)(hown:aT B 87 6 w v n cs)(hV:ag (fun b=>R b∧v.ownBlock≠some b) w ys cs)(hy:ag (fun b=>R b∧v.ownBlock≠some b) w ys' news)(hsrc:Src P 6 tx u m news w)(hB:B≤w.heap.size)(h63:n+m≤maxLen)(hbytes:(n+m) * bs≤140737488355328):
  aA P (.call ⟨.builtin .append, #[s,x], #[t,tx]⟩) ty ρ w (fun v' w'=>aT B 87 6 w' v' (n+m) (cs++news)∧ag (fun b=>R b∧v'.ownBlock≠some b) w' (ys++ys') (cs++news)∧am (fun k=>k<B) w w'):=
 (eF ht hs hx hown hsrc hB h63 hbytes).imp fun v' w' ⟨h1,h2,h3⟩=>⟨h1,ag.pushG hV hy h2 h3,hown.evo (w0:=w) h2⟩
theorem yT{fs:List (V×V)}(hi:i<fs.length):(fs.take (i+1)).map (·.1)=(fs.take i).map (·.1)++[fs[i].1]:=by
 rw[← List.take_append_getElem hi,List.map_append];rfl
theorem cM.at1{A:Nat→Prop}(h1:At w b 0 cs)(hb:A b)(hc:1≤c)(hx:aC A w x cs):cM A w [x].length (.slice (some ⟨b,0,none⟩) 1 c) (ag A w [x]):=
 ⟨_,c,cs,rfl,hc,ag.one hx,.inr ⟨b,0,rfl,hb,h1⟩⟩
theorem cW.open(h:cW A w code fs cells):∃p c,cells=[.int .u64 (code:Int),.slice p fs.length c]:=by
 obtain⟨p,c,xs,h1,_⟩:=h
 exact⟨p,c,h1⟩
theorem cW.idx{i:Nat}(h:cW A w code fs [.int .u64 (code:Int),.slice p fs.length c])(hi:i<fs.length):
  ∃b o a0 a1 a2 a3 a4 a5 b0 b1 b2 b3 b4 b5,p=some ⟨b,o,none⟩∧A b∧At w b (o+i * 12) [a0,a1,a2,a3,a4,a5,b0,b1,b2,b3,b4,b5]∧aC A w fs[i].1 [a0,a1,a2,a3,a4,a5]∧aC A w fs[i].2 [b0,b1,b2,b3,b4,b5]∧fs.length≤c:=by
 obtain⟨p',c',xs,h1,h2,h3,h4⟩:=h
 simp only[List.cons.injEq,Value.slice.injEq,true_and,and_true]at h1
 obtain⟨rfl,rfl⟩:=h1
 rcases h4 with h4|⟨b,o,e1,e2,e3⟩
 ·rw[h4]at hi;exact absurd hi (by simp)
 ·obtain⟨pre,c1,c2,post,e,ep,r1,r2⟩:=h3.at12 hi
  obtain⟨a0,a1,a2,a3,a4,a5,rfl⟩:=r1.six
  obtain⟨b0,b1,b2,b3,b4,b5,rfl⟩:=r2.six
  rw[e]at e3
  have q:=e3.mid
  rw[ep]at q
  exact⟨b,o,a0,a1,a2,a3,a4,a5,b0,b1,b2,b3,b4,b5,e1,e2,q,r1,r2,h2⟩
theorem eH{l m:List Value}(h1:l.all (fun v=>v.oneCell')=true)(h2:m.all (fun v=>v.oneCell')=true):(l++m).all (fun v=>v.oneCell')=true:=by
 rw[List.all_append,h1,h2];rfl
theorem r0(hC:cW A w code fs cells)(hl:fs.length≤1000):
  ah TP 30 [.agg cells.toArray] w fun r w'=>∃sv sd cs,r= .agg #[.int .i64 21,.int .u64 0,str [],sv,.int .i64 0,sd]∧aT w.heap.size 87 6 w' sv fs.length cs∧ag (fun b=>A b∧b<w.heap.size) w' (fs.map (·.1)) cs∧cM (fun b=>w.heap.size≤b∧sv.ownBlock≠some b) w' 1 sd (ag (fun b=>w.heap.size≤b∧sv.ownBlock≠some b) w' [uV code])∧ay w w':=by
 replace hC:=(hC.lowW (B:=fun b=>A b∧b<w.heap.size) fun b hb h=>⟨h,hb⟩)
 obtain⟨p,c,rfl⟩:=hC.open
 refine co Tryz.func30 ?_
 have he:=Hi w
 refine jA 2 rfl ?_
 have:=he.s
 refine Hb rfl fun w1 hb1 e1=>?_
 have:=hb1.lt
 have:=e1.s
 replace he:=he.t e1
 have:=he.s
 have:=hb1.lt
 refine Ha fun w2 hb2 e2=>?_
 have:=hb2.lt
 have:=e2.s
 refine jD 4 rfl ?_
 replace hb1:=hb1.m e2
 refine ld rfl hb1 rfl<|Hl rfl (cV) fun w3 e3=>?_
 have:=e3.s
 replace he:=(he.t e2).t e3
 have:=he.s
 replace hb1:=hb1.m e3
 have:=hb1.lt
 replace hb2:=hb2.m e3
 have:=hb2.lt
 refine WL.l rfl (ll [_]) ?_
 rintro _ w4 ⟨rfl,hb4,e4⟩
 have:=e4.s
 refine Hq (az (cs:=[_,_,_,_,_,_]) Fo.h rfl rfl) ?_
 replace he:=he.t e4
 have:=he.s
 replace hb1:=hb1.m e4
 have:=hb1.lt
 replace hb2:=hb2.m e4
 have:=hb2.lt
 have:=hb4.lt
 refine Ha fun w5 hb5 e5=>?_
 have:=hb5.lt
 have:=e5.s
 refine Ho rfl rfl hb5 fun w6 hb5 e6 hz6=>?_
 have:=e6.s
 refine jD 5 rfl ?_
 replace hb1:=hb1.m (e5.t e6)
 refine ld rfl hb1 rfl<|jD 4 rfl ?_
 obtain⟨N1,eN1⟩:∃M,M=w6.heap.size:=⟨_,rfl⟩
 replace hC:=((((hC.m e1).m e2).m e3).m e4).m (e5.t e6)
 replace hb2:=hb2.m (e5.t e6)
 replace hb4:=hb4.m (e5.t e6)
 replace he:=he.t (e5.t e6)
 refine WC.loop2 (ι:=Nat) [(2,_),(3,_),(12,_),(13,_)] (fun i=>[(14,.int .i64 (i:Int))]) (fun i wi=>(∃sv cs,aH wi w4.heap.size [.int .i64 21,.int .u64 0,str [],sv,.int .i64 0,.slice (some ⟨w3.heap.size,0,none⟩) 1 1]∧aT N1 87 6 wi sv i cs∧ag (fun b=>(A b∧b<w.heap.size)∧sv.ownBlock≠some b) wi ((fs.take i).map (·.1)) cs)∧i≤fs.length∧am (fun b=>b<N1∧b≠w4.heap.size) w6 wi) (fun i=>fs.length-i) 0 sb sb (⟨⟨_,[],hb5,aT.nil _ _ _ _,by rw[List.take_zero,List.map_nil,ag]⟩,Nat.zero_le _,am.refl _⟩) ?_
 intro i wi1 hh;obtain⟨⟨sv,cs,hb5,hO,hV⟩,ni,hE⟩:=hh
 have:=hE.s
 rcases Nat.lt_or_ge i fs.length with qi|qi
 replace hC:=hC.m hE
 ·obtain⟨b,o,a0,a1,a2,a3,a4,a5,b0,b1,b2,b3,b4,b5,rfl,qA,hA,hR,qR2,qc⟩:=hC.idx qi
  have qbel:=hO.below
  have q1:=hR.one
  have q12:[a0,a1,a2,a3,a4,a5,b0,b1,b2,b3,b4,b5].all (fun v=>v.oneCell')=true:=eH q1 qR2.one
  replace hR:=hR.k (B:=fun b=>(A b∧b<w.heap.size)∧sv.ownBlock≠some b) fun b h=>⟨h,qbel.2 b (by omega)⟩
  refine jA 2 rfl<|lT rfl rfl<|jD 8 rfl<|ix rfl rfl rfl<|Hq (ad Fo.h rfl Xr hA (hn:=rfl)) ?_
  replace he:=he.t hE
  have:=he.s
  replace hb1:=hb1.m hE
  have:=hb1.lt
  replace hb2:=hb2.m hE
  have:=hb2.lt
  replace hb4:=hb4.m hE
  have:=hb4.lt
  have:=hb5.lt
  refine Ha fun w7 hb7 e7=>?_
  have:=hb7.lt
  have ns7:=e7.s
  refine Ho rfl rfl hb7 fun w8 hb7 e8 hz8=>?_
  have:=e8.s
  refine jD 3 rfl ?_
  replace hb5:=hb5.m (e7.t e8)
  refine ld rfl hb5 rfl<|jC 1 rfl<|Hq (ad Fo.h rfl Xr (At.pre (c:=[_,_,_,_,_,_]) hb7.at) (hn:=rfl)) ?_
  replace he:=he.t (e7.t e8)
  have:=he.s
  replace hb1:=hb1.m (e7.t e8)
  have:=hb1.lt
  replace hb2:=hb2.m (e7.t e8)
  have:=hb2.lt
  replace hb4:=hb4.m (e7.t e8)
  have:=hb4.lt
  have:=hb5.lt
  have:=hb7.lt
  refine WL.l rfl (ll [_]) ?_
  rintro _ w9 ⟨rfl,hb9,e9⟩
  have:=e9.s
  replace hO:=(hO.m (e7.t e8)).m e9
  replace hV:=(hV.m (e7.t e8)).m e9
  replace hR:=(hR.m (e7.t e8)).m e9
  refine WL.l rfl (DN Fo.h rfl rfl hO hV (ag.one hR) (Src.at Fb.h hb9.at rfl q1) (by omega) (by simp only[maxLen];omega) (by omega)) ?_
  rintro v10 w10 ⟨hO,hV,e10⟩
  obtain⟨q10,c10,hq10,_,_⟩:=hO.form
  subst hq10
  have:=e10.s
  refine jC 1 rfl ?_
  replace hb5:=(hb5.m e9).m e10
  refine Hp rfl rfl hb5 fun w11 hb5 e11 hz11=>?_
  have:=e11.s
  refine jD 2 rfl<|ai rfl rfl rfl<|jC 2 rfl ?_
  replace hV:=hV.m e11
  rw[← yT qi]at hV
  replace hO:=hO.m e11
  exact⟨(i+1),sb,sb,⟨⟨_,_,hb5,hO,hV⟩,qi,(((((hE.t (e7.t e8)).t e9).t e10).t e11))⟩,(by show fs.length-(i+1)<fs.length-i;omega)⟩
 ·have hil:i=fs.length:=by omega
  obtain⟨q0,c0,hq0,_,_⟩:=hO.form
  subst hq0
  have qbel:=hO.below
  refine jA 2 rfl<|lF rfl rfl<|jD 3 rfl<|WC.exit<|jA 2 rfl<|la rfl hb5 ?_
  replace hb2:=hb2.m hE
  refine Ho rfl rfl hb2 fun w7 hb2 e7 hz7=>?_
  have ns7:=e7.s
  refine WL.nil<|WC.ret ?_
  replace hV:=hV.m e7
  rw[hil,List.take_length]at hV
  subst hil
  replace hb4:=(hb4.m hE).m e7
  replace hO:=hO.m e7
  replace he:=(he.t hE).t e7
  exact cO rfl hb2 bR ⟨_,_,cs,rfl,hO.low (by omega),hV.k fun b h=>h.1,cM.at1 hb4.at ⟨by omega,qbel.2 _ (by omega)⟩ (Nat.le_refl _) (lc 5 code [] (A:=_)),he.k fun k hk _=>hk⟩
theorem ag.two{x y:V}(h:ag A w [x,y] cs):∃a0 a1 a2 a3 a4 a5 b0 b1 b2 b3 b4 b5,cs=[a0,a1,a2,a3,a4,a5,b0,b1,b2,b3,b4,b5]∧aC A w x [a0,a1,a2,a3,a4,a5]∧aC A w y [b0,b1,b2,b3,b4,b5]:=by
 rw[ag]at h
 obtain⟨c1,c',rfl,h1,h2⟩:=h
 rw[ag]at h2
 obtain⟨c2,c'',rfl,h3,h4⟩:=h2
 rw[ag]at h4
 subst h4
 obtain⟨a0,a1,a2,a3,a4,a5,rfl⟩:=h1.six
 obtain⟨b0,b1,b2,b3,b4,b5,rfl⟩:=h3.six
 exact⟨a0,a1,a2,a3,a4,a5,b0,b1,b2,b3,b4,b5,rfl,h1,h3⟩
theorem ag.mk2(h:aC A w x c)(h':aC A w y c'):ag A w [x,y] (c++c'):=(ag.one h).append (ag.one h')
theorem jF(hC:cW A w code fs cells)(hl:fs.length≤1000):
  ah TP 30 [.agg cells.toArray] w fun r w'=>∃a b c d e f,r= .agg #[a,b,c,d,e,f]∧aC (fun b=>A b∧b<w.heap.size∨w.heap.size≤b) w' (dQ code fs) [a,b,c,d,e,f]∧ay w w':=by
 refine(r0 hC hl).imp fun r w' ⟨sv,sd,cs,h1,h2,h3,h4,h5⟩=>?_
 refine⟨_,_,_,_,_,_,h1,?_,h5⟩
 rw[dQ,aC]
 exact⟨_,_,rfl,cM.own h2 (by simp) (h3.k fun b h=> .inl h) fun b hb _=> .inr hb,h4.low (n:=1) (l:=[uV code]) fun b h=> .inr h.1⟩
theorem cW.lit{A:Nat→Prop}{fs:List (V×V)}(hn:fs.length=n)(hB:aH w b xs)(hb:A b)(hX:ag A w (lK fs) xs):cW A w code fs [.int .u64 (code:Int),.slice (some ⟨b,0,none⟩) n n]:=by
 subst hn
 exact⟨_,_,xs,rfl,Nat.le_refl _,hX,.inr ⟨b,0,rfl,hb,hB.at⟩⟩
def lJ(c d:List UInt8)(i:List V):List (V×V):=[(pv 20 0 c,aX),(tV 19 d,aX),(mV i,aX)]
theorem m5{i:List V}(hK:cM A w i.length (.slice p i.length cp) (ag A w i)):
  ah TP 80 [.agg #[str c,str d,.slice p i.length cp]] w fun r w'=>∃a b,r= .agg #[a,b]∧cW (fun b=>A b∧b<w.heap.size∨w.heap.size≤b) w' 29 (lJ c d i) [a,b]∧ay w w':=by
 replace hK:=hK.weakW (B:=fun b=>A b∧b<w.heap.size) (fun b hb h=>⟨h,hb⟩)
 refine co Tryz.func80 ?_
 have he:=Hi w
 refine jA 2 rfl ?_
 have:=he.s
 refine Hb rfl fun w1 hb1 e1=>?_
 have:=hb1.lt
 have:=e1.s
 replace he:=he.t e1
 have:=he.s
 have:=hb1.lt
 refine Ha fun w2 hb2 e2=>?_
 have:=hb2.lt
 have:=e2.s
 refine WL.nil ?_
 replace hK:=(hK.m e1).m e2
 replace hb1:=hb1.m e2
 refine WC.seq<|WC.regionD (tt [0,1,2,3,4,5,7,8]++ff [6,9,10]++tt [11]++ff [12]) (am (fun b=>b≠w1.heap.size) _) mixed (by kernel_rfl) Vd ?_
 have nd1w2:w2.drew.heap.size=w2.heap.size:=rfl
 refine jE 1 rfl<|dl rfl hb1 rfl<|He (fun _ hS=>az (cs:=[_,_,_,_,_,_]) Fo.h rfl rfl)<|He (fun _ hS=>az (cs:=[_,_,_,_,_,_,_,_,_,_,_,_]) Fo.h rfl rfl)<|jE 1 rfl<|dl rfl hb1 rfl<|jE 1 rfl<|dl rfl hb1 rfl<|cd rfl (rI) ?_
 rintro v3 w3 ⟨cs,rfl,qT0,e3⟩
 have qT:=(qT0 (fun b=>b<0)).two
 obtain⟨x0,x1,x2,x3,x4,x5,y0,y1,y2,y3,y4,y5,rfl,hZ1,hZ2⟩:=qT
 have q1:=eH hZ1.one hZ2.one
 have:=e3.s
 refine⟨(Vd.t e3),?_⟩
 refine cd rfl (mv ((hK.m Xd).m e3)) ?_
 rintro v4 w4 ⟨cs2,rfl,qM0,e4⟩
 have qM:=qM0.two
 obtain⟨u0,u1,u2,u3,u4,u5,z0,z1,z2,z3,z4,z5,rfl,hZ3,hZ4⟩:=qM
 have q2:=eH hZ3.one hZ4.one
 have:=e4.s
 refine⟨((Vd.t e3).t e4),?_⟩
 replace he:=(((he.t e2).t Xd).t e3).t e4
 have:=he.s
 replace hb1:=((hb1.m Xd).m e3).m e4
 have:=hb1.lt
 replace hb2:=((hb2.m Xd).m e3).m e4
 have:=hb2.lt
 refine WD.l rfl rfl (ll [_,_,_]) ?_
 rintro _ w5 ⟨rfl,hb5,e5⟩
 have:=e5.s
 refine⟨(((Vd.t e3).t e4).t e5),?_⟩
 refine He (fun _ hS=>az (cs:=[_,_]) Fo.h rfl rfl) ?_
 replace hb2:=hb2.m e5
 refine WD.l0 rfl (bj rfl rfl hb2) ?_
 rintro _ w6 ⟨hb2,e6,hz6⟩
 have:=e6.s
 refine⟨((((Vd.t e3).t e4).t e5).t e6),?_⟩
 refine WD.nil<|WC.ret ?_
 replace hZ1:=((hZ1.m e4).m e5).m e6
 replace hZ2:=((hZ2.m e4).m e5).m e6
 replace hZ3:=(hZ3.m e5).m e6
 replace hZ4:=(hZ4.m e5).m e6
 have hR:ag (fun b=>A b∧b<w.heap.size∨w.heap.size≤b) w6 (lK (lJ c d i)) _:=ag.append (ag.mk2 (lc 20 0 c) dO) (ag.append (ag.mk2 (hZ1.k fun b h=>absurd h (Nat.not_lt_zero b)) (hZ2.k fun b h=>absurd h (Nat.not_lt_zero b))) (ag.mk2 (hZ3.k fun b h=> .inl h) (hZ4.k fun b h=> .inl h)))
 replace hb5:=hb5.m e6
 replace he:=(he.t e5).t e6
 exact cO rfl hb2 eT ⟨_,_,rfl,cW.lit rfl hb5 (by omega) hR,he.k fun k hk _=>hk⟩
structure kE (A:Nat→Prop) (w:World) (l:List mH) (v:Value):Prop where
 ex:∃p c,v= .slice p l.length c∧l.length≤c∧(l=[]∨∃cc d i b o pi ci,l=[(cc,d,i)]∧p=some ⟨b,o,none⟩∧A b∧b<w.heap.size∧At w b o [str cc,str d,.slice pi i.length ci]∧cM A w i.length (.slice pi i.length ci) (ag A w i))
theorem kE.m(h:kE A w l v)(e:am B w w')(hAB:∀b,b<w.heap.size→A b→B b:=by(intro b hb1 hb2;first|exact trivial|exact hb2|exact hb2.2|((try dsimp only[Nb]at hb2⊢);omega))):kE A w' l v:=by
 obtain⟨p,c,h1,h2,h3⟩:=h
 refine⟨p,c,h1,h2,h3.imp id fun⟨cc,d,i,b,o,pi,ci,e1,e2,e3,e4,e5,e6⟩=>⟨cc,d,i,b,o,pi,ci,e1,e2,e3,Nat.lt_of_lt_of_le e4 e.size,e5.growP e hAB e3,e6.m e hAB⟩⟩
theorem kE.lowW{B:Nat→Prop}(h:kE A w l v)(hAB:∀b,b<w.heap.size→A b→B b):kE B w l v:=by
 obtain⟨p,c,h1,h2,h3⟩:=h
 refine⟨p,c,h1,h2,h3.imp id fun⟨cc,d,i,b,o,pi,ci,e1,e2,e3,e4,e5,e6⟩=>⟨cc,d,i,b,o,pi,ci,e1,e2,hAB b e4 e3,e4,e5,e6.weakW hAB⟩⟩
theorem cW.one(h:cW A w code fs cells):cells.all (fun v=>v.oneCell')=true:=by
 obtain⟨p,c,rfl⟩:=h.open
 rfl
theorem BF{A:Nat→Prop}{N1 N2:Nat}(h:((A b∧b<N0)∧b<N1∨N1≤b)∧b<N2∨N2≤b)(h1:N0≤N1)(h2:N0≤N2):A b∧b<N0∨N0≤b:=by
 rcases h with⟨⟨h,_⟩|h,_⟩|h
 ·exact .inl h
 ·exact .inr (by omega)
 ·exact .inr (by omega)
theorem uI{A:Nat→Prop}{N1:Nat}(h:(A b∧b<N0)∧b<N1∨N1≤b)(h1:N0≤N1):A b∧b<N0∨N0≤b:=by
 rcases h with⟨h,_⟩|h
 ·exact .inl h
 ·exact .inr (by omega)
theorem sJ{a0 a1:Value}(hb:At w b 0 [a0,a1])(hC:cW A w code fs [a0,a1])(hl:fs.length≤1000):
  ah TP 75 [.slice (some ⟨b,0,none⟩) 1 1] w fun r w'=>∃cs,r= .agg cs.toArray∧ag (fun b=>A b∧b<w.heap.size∨w.heap.size≤b) w' [dQ code fs,aX] cs∧ay w w':=by
 replace hC:=(hC.lowW (B:=fun b=>A b∧b<w.heap.size) fun b hb h=>⟨h,hb⟩)
 refine co Tryz.func75 ?_
 have he:=Hi w
 refine jA 2 rfl ?_
 have:=he.s
 refine Ha fun w1 hb1 e1=>?_
 have:=hb1.lt
 have:=e1.s
 refine jD 6 rfl<|Hq (ae (ak rfl rfl) (bk (by(decide))))<|jD 3 rfl<|jA 3 rfl<|ix rfl rfl rfl ?_
 replace hb:=hb.m e1
 refine Hq (ad Fo.h rfl Xr hb (hn:=rfl)) ?_
 replace hC:=hC.m e1
 refine cl rfl (jF hC hl) ?_
 rintro v2 w2 ⟨x0,x1,x2,x3,x4,x5,rfl,hR,e2⟩
 have q1:=hR.one
 have q2:=eH q1 (dO (A:=fun _=>True) (w:=w)).one
 have:=e2.s
 refine Hq (az (cs:=[_,_,_,_,_,_,_,_,_,_,_,_]) Fo.h rfl rfl) ?_
 replace hb1:=hb1.m e2
 refine Ho rfl rfl hb1 fun w3 hb1 e3 hz3=>?_
 have:=e3.s
 refine WL.nil<|WC.ret ?_
 replace hR:=hR.m e3
 replace he:=((he.t e1).t e2).t e3
 exact cO rfl hb1 eE ⟨_,rfl,ag.mk2 (hR.k fun b h=>uI h (by omega)) dO,he.k fun k hk _=>hk⟩
theorem uZ(hF:kE A w l v):
  ah TP 53 [v] w fun r w'=>∃cs,r= .agg cs.toArray∧ag (fun b=>A b∧b<w.heap.size∨w.heap.size≤b) w' [dg l,aX] cs∧ay w w':=by
 replace hF:=(hF.lowW (B:=fun b=>A b∧b<w.heap.size) fun b hb h=>⟨h,hb⟩)
 obtain⟨p,c,rfl,qc,hl|⟨cc,d,i,b,o,pi,ci,rfl,rfl,qA,_,hA,hK⟩⟩:=hF.ex
 ·subst hl
  refine co Tryz.func53 ?_
  have he:=Hi w
  refine jA 2 rfl ?_
  have hs1:=he.s
  refine Ha fun w1 hb1 e1=>?_
  have nx1:=hb1.lt
  have ns1:=e1.s
  refine jD 6 rfl<|Hq (ae (ak rfl rfl) (br (by(rfl))))<|jD 4 rfl<|Hq (az (cs:=[_,_,_,_,_,_,_,_,_,_,_,_]) Fo.h rfl rfl)<|Ho rfl rfl hb1 fun w2 hb1 e2 hz2=>?_
  have ns2:=e2.s
  refine WL.nil<|WC.ret ?_
  replace he:=he.t (e1.t e2)
  exact cO rfl hb1 eE ⟨_,rfl,ag.mk2 dO dO,he.k fun k hk _=>hk⟩
 ·refine co Tryz.func53 ?_
  have he:=Hi w
  refine jA 2 rfl ?_
  have hs1:=he.s
  refine Ha fun w1 hb1 e1=>?_
  have nx1:=hb1.lt
  have ns1:=e1.s
  refine jD 6 rfl<|Hq (ae (ak rfl rfl) (bk (by(simp))))<|jD 3 rfl<|jA 3 rfl<|ix rfl rfl rfl ?_
  replace hA:=hA.m e1
  refine Hq (ad Fo.h rfl Xr hA (hn:=rfl)) ?_
  replace hK:=hK.m e1
  refine cl rfl (m5 hK) ?_
  rintro v2 w2 ⟨a,b2,rfl,hC,e2⟩
  have q1:=hC.one
  have ns2:=e2.s
  replace he:=(he.t e1).t e2
  have:=he.s
  replace hb1:=hb1.m e2
  have:=hb1.lt
  refine WL.l rfl (ll [_]) ?_
  rintro _ w3 ⟨rfl,hb3,e3⟩
  have:=e3.s
  replace hC:=hC.m e3
  refine cl rfl (sJ hb3.at hC (by simp[lJ])) ?_
  rintro v4 w4 ⟨cs,rfl,qR,e4⟩
  have qR2:=qR.two
  obtain⟨x0,x1,x2,x3,x4,x5,y0,y1,y2,y3,y4,y5,rfl,hZ1,hZ2⟩:=qR2
  have q2:=eH hZ1.one hZ2.one
  have:=e4.s
  replace hb1:=(hb1.m e3).m e4
  refine Ho rfl rfl hb1 fun w5 hb1 e5 hz5=>?_
  have:=e5.s
  refine WL.nil<|WC.ret ?_
  replace hZ1:=hZ1.m e5
  replace hZ2:=hZ2.m e5
  replace he:=((he.t e3).t e4).t e5
  exact cO rfl hb1 eE ⟨_,rfl,ag.mk2 (hZ1.k fun b h=>BF h (by omega) (by omega)) (hZ2.k fun b h=>BF h (by omega) (by omega)),he.k fun k hk _=>hk⟩
end Go.Proofs.LL
namespace Go.Proofs.LL
open Go Go.Proofs Go.RowKit
set_option maxHeartbeats 4000000
attribute [local irreducible] ar WL WC cq WT WX
theorem ag.set:∀ {ys:List V} {cs:List Value} {i:Nat} {y:V} {c:List Value},i<ys.length→ag A w ys cs→aC A w y c→ag A w (ys.set i y) (cs.take (i * 6)++c++cs.drop (i * 6+c.length))
 |[],_,i,_,_,hi,_,_=>absurd hi (by simp)
 |x::r,cs,0,y,c,_,h,hy=>by
  rw[ag]at h
  obtain⟨c0,c',rfl,h1,h2⟩:=h
  have l0:=h1.len
  have l1:=hy.len
  simp only[List.set_cons_zero,Nat.zero_mul,List.take_zero,List.nil_append,Nat.zero_add]
  rw[ag]
  refine⟨c,c',?_,hy,h2⟩
  rw[l1,← l0,List.drop_left]
 |x::r,cs,i+1,y,c,hi,h,hy=>by
  rw[ag]at h
  obtain⟨c0,c',rfl,h1,h2⟩:=h
  have l0:=h1.len
  have ih:=ag.set (i:=i) (by simpa using hi) h2 hy
  simp only[List.set_cons_succ]
  rw[ag]
  refine⟨c0,_,?_,h1,ih⟩
  have e1:(i+1) * 6=c0.length+i * 6:=by omega
  rw[e1,Nat.add_assoc,List.take_length_add_append,List.drop_length_add_append,List.append_assoc,List.append_assoc,List.append_assoc]
theorem ag.take:∀ {ys:List V} {cs:List Value} (m:Nat),ag A w ys cs→ag A w (ys.take m) (cs.take (m * 6))
 |[],cs,m,h=>by rw[ag]at h;subst h;simp[ag]
 |x::r,cs,0,h=>by simp[ag]
 |x::r,cs,m+1,h=>by
  rw[ag]at h
  obtain⟨c0,c',rfl,h1,h2⟩:=h
  have l0:=h1.len
  rw[List.take_succ_cons,ag]
  refine⟨c0,c'.take (m * 6),?_,h1,ag.take m h2⟩
  have e1:(m+1) * 6=c0.length+m * 6:=by omega
  rw[e1,List.take_length_add_append]
theorem At.takeL(h:At w b o c)(n:Nat):At w b o (c.take n):=by
 have h2:At w b o (c.take n++c.drop n):=by rw[List.take_append_drop];exact h
 exact h2.pre
theorem aT.at0{g:Nat}(h:aT B e z w (.slice (some ⟨g,0,none⟩) n c) n xs)(hn:0<n):At w g 0 xs∧g<w.heap.size∧B≤g∧n≤c:=by
 obtain⟨p,c',e1,e2,e3⟩:=h.form
 obtain⟨b,e4,e5,e6,e7⟩:=e3 hn
 simp only[Value.slice.injEq]at e1
 obtain⟨e1,_,rfl⟩:=e1
 rw[e4]at e1
 simp only[Option.some.injEq,Addr.mk.injEq]at e1
 obtain⟨rfl,_⟩:=e1
 exact⟨e7,e6,e5,e2⟩
theorem vj{α:Type}{L vs:List α}(h1:j+vs.length≤N)(h2:N≤L.length):(L.take j++vs++L.drop (j+vs.length)).take N=(L.take N).take j++vs++(L.take N).drop (j+vs.length):=by
 have e1:(L.take j).length=j:=by rw[List.length_take];omega
 rw[List.take_append,List.take_append,List.length_append,e1,List.take_take,List.take_take,List.drop_take,Nat.min_eq_right (by omega),Nat.min_eq_left (by omega),List.take_of_length_le (show vs.length≤N-j by omega)]
theorem fV{g i j:Nat}{vs:List Value}(ht:x8 P t=some z)(hx:ov ρ x=some (.pointer (some ⟨g,j,none⟩)))(hy:ov ρ y=some (.agg vs.toArray))(hv:vs.all (fun v=>v.oneCell')=true)(hn:vs.length=z)(hO:aT B e z w (.slice (some ⟨g,0,none⟩) n c) n xs)(hj:j=i * z)(hi:i<n):
  aA P (.store t x y) ty ρ w (fun _ w'=>aT B e z w' (.slice (some ⟨g,0,none⟩) n c) n (xs.take (i * z)++vs++xs.drop (i * z+vs.length))∧am (fun k=>k≠g) w w'∧w'.heap.size=w.heap.size):=by
 subst hj
 obtain⟨hl,hr|⟨g',cap,cur,h3,h4,h5,h6,h7,h8,h9⟩⟩:=hO.row
 ·cases hr.1
 ·simp only[Value.slice.injEq,Option.some.injEq,Addr.mk.injEq]at h3
  obtain⟨⟨rfl,_⟩,_,rfl⟩:=h3
  obtain⟨q,hq,hs⟩:=Option.map_eq_some_iff.1 ht
  have hle:(i+1) * z≤n * z:=Nat.mul_le_mul_right z hi
  have hle2:n * z≤c * z:=Nat.mul_le_mul_right z h6
  rw[Nat.add_mul,Nat.one_mul]at hle
  have hst:=run_storeCells_at (P:=P) g (i * z) e vs 0 cur w h5 (by omega) (fun v h=>by simpa using(List.all_eq_true.1 hv) v h)
  have hcl:cur.toList.length=c * z:=by simp[h8]
  refine aA.of_skip fun N D a dst pos af gg ha=>⟨w.setRow g (cur.toList.take (i * z)++vs++cur.toList.drop (i * z+vs.length)).toArray,?_,⟨?_,.inr ⟨g,c,(cur.toList.take (i * z)++vs++cur.toList.drop (i * z+vs.length)).toArray,rfl,h4,setRow_heap w g cur _ e (0,0) h5,h6,h7,?_,?_⟩⟩,⟨rfl,rfl,rfl,by simp,fun k _ hk=>setRow_other w g k _ hk⟩,by simp⟩
  ·simp only[Nat.add_zero]at hst
   simp[execOp,ha.ov hx,ha.ov hy,Instr.storeAt,Instr.sureAddr,storeVar,sizeOf,typeInfo,hq,hs,Value.cells,hn,hst]
  ·simp;omega
  ·simp;omega
  ·rw[← h9]
   exact vj (by omega) (by omega)
theorem vJ{A:Prop}(h:A:=by
 refine Ho rfl rfl hb2 fun w3 hb2 e3 hz3=>?_
 have:=e3.s
 refine WL.nil<|WC.ret ?_
 replace hx:=(hx.m e1).m (e2.t e3)
 replace hF:=(hF.m e1).m (e2.t e3)
 replace he:=he.t (e2.t e3)
 exact cO rfl hb2 bR ⟨_,_,_,_,_,_,_,rfl,.inl rfl,hx,hF,he.k fun b hb h=>⟨hb,h⟩⟩):A:=h
def Er(v y:V):Prop:=y=v∨(v.kind=23∧∃s,v.kids=[s]∧s.kind=20∧y=s)
theorem jJ{cx:List Value}(hx:aC A w x cx)(hF:Fm w fb)(hA:∀b,A b→b≠fb):
  ah TP 33 [.pointer (some ⟨fb,0,none⟩),.agg cx.toArray] w fun r w'=>∃y a b c d e f,r= .agg #[a,b,c,d,e,f]∧Er x y∧aC (fun b=>A b∧b<w.heap.size∧b≠fb) w' y [a,b,c,d,e,f]∧Fm w' fb∧am (fun k=>k≠fb) w w':=by
 replace hx:=hx.weakenW (B:=fun b=>A b∧b<w.heap.size∧b≠fb) (fun b hb h=>⟨h,hb,hA b h⟩)
 have:=hF.lt
 obtain⟨k,n,t,ks,o,d⟩:=x
 obtain⟨pk,ck,pd,cd,rfl,_,_,hK,_⟩:=hx.openV
 rcases Decidable.em (k=23)with qk|qk
 ·rcases Decidable.em (ks.length=1)with q1|q1
  ·obtain⟨b0,o0,c0,rfl,qA0,hA0,l0,hR0⟩:=hK.kid (i:=0) (by omega)
   obtain⟨s,rfl⟩:=List.length_eq_one_iff.1 q1
   have hRs:aC (fun b=>A b∧b<w.heap.size∧b≠fb) w s c0:=hR0
   obtain⟨k0,n0,t0,ks0,oo0,d0⟩:=s
   obtain⟨pk0,ck0,pd0,cd0,rfl,_,_,_,_⟩:=hRs.openV
   have q1s:=hRs.one
   rcases Decidable.em (k0=20)with qk0|qk0
   ·refine co Tryz.func33 ?_
    have he:am (fun b=>b<w.heap.size∧b≠fb) w w:=am.refl w
    refine jA 2 rfl ?_
    have hs1:=he.s
    refine Hb rfl fun w1 hb1 e1=>?_
    have nx1:=hb1.lt
    have ns1:=e1.s
    replace he:=he.t e1
    have hs2:=he.s
    have hx2b1:=hb1.lt
    refine Ha fun w2 hb2 e2=>?_
    have nx2:=hb2.lt
    have ns2:=e2.s
    refine jD 5 rfl ?_
    replace hb1:=hb1.m e2
    refine ld rfl hb1 rfl<|Hq (ae (ak rfl rfl) (br (qk)))<|jC 2 rfl<|LL.lg rfl rfl rfl hb1 rfl<|jC 1 rfl<|Hg rfl rfl (ae (ak rfl rfl) (br (by(simp))))<|jC 3 rfl<|LL.lg rfl rfl rfl hb1 rfl<|Hg rfl rfl (bd Fo.h rfl rfl rfl)<|jC 1 rfl ?_
    replace hA0:=(hA0.m e1).m e2
    refine Hg rfl rfl (ao Fb.h rfl Xr (hA0.get (j:=0) rfl))<|Hg rfl rfl (ae (ak rfl rfl) (br (qk0)))<|jC 3 rfl ?_
    replace hF:=(hF.m e1).m e2
    refine WL.lg rfl rfl rfl rfl (cD Fb.h rfl (jM (n:=2) hF (by omega) (by omega))) ?_
    rintro v3 w3 ⟨⟨ki,qki,rfl⟩,hF,e3⟩
    have:=e3.s
    rcases Nat.eq_zero_or_pos ki with q|q
    ·refine Hg rfl rfl (ae (ak rfl rfl) (br (by(omega))))<|jD 6 rfl ?_
     replace hb1:=hb1.m e3
     refine ld rfl hb1 rfl<|ix rfl rfl rfl ?_
     replace hA0:=hA0.m e3
     refine Hq (ad Fo.h rfl Xr hA0 (hn:=rfl)) ?_
     replace hb2:=hb2.m e3
     refine Ho rfl rfl hb2 fun w4 hb2 e4 hz4=>?_
     have ns4:=e4.s
     refine WL.nil<|WC.ret ?_
     replace hF:=hF.m e4
     replace hRs:=(((hRs.m e1).m e2).m e3).m e4
     replace he:=((he.t e2).t e3).t e4
     exact cO rfl hb2 bR ⟨_,_,_,_,_,_,_,rfl,.inr ⟨qk,_,rfl,qk0,rfl⟩,hRs,hF,he.k fun b hb h=>⟨hb,h⟩⟩
    ·refine Hg rfl rfl (ae (ak rfl rfl) (bk (by(omega))))<|jD 4 rfl<|jA 2 rfl ?_
     replace hb1:=hb1.m e3
     refine la rfl hb1 ?_
     replace hb2:=hb2.m e3
     refine Ho rfl rfl hb2 fun w4 hb2 e4 hz4=>?_
     have ns4:=e4.s
     refine WL.nil<|WC.ret ?_
     replace hx:=(((hx.m e1).m e2).m e3).m e4
     replace hF:=hF.m e4
     replace he:=((he.t e2).t e3).t e4
     exact cO rfl hb2 bR ⟨_,_,_,_,_,_,_,rfl,.inl rfl,hx,hF,he.k fun b hb h=>⟨hb,h⟩⟩
   ·refine co Tryz.func33 ?_
    have he:am (fun b=>b<w.heap.size∧b≠fb) w w:=am.refl w
    refine jA 2 rfl ?_
    have hs1:=he.s
    refine Hb rfl fun w1 hb1 e1=>?_
    have nx1:=hb1.lt
    have ns1:=e1.s
    replace he:=he.t e1
    have hs2:=he.s
    have hx2b1:=hb1.lt
    refine Ha fun w2 hb2 e2=>?_
    have nx2:=hb2.lt
    have ns2:=e2.s
    refine jD 5 rfl ?_
    replace hb1:=hb1.m e2
    refine ld rfl hb1 rfl<|Hq (ae (ak rfl rfl) (br (qk)))<|jC 2 rfl<|LL.lg rfl rfl rfl hb1 rfl<|jC 1 rfl<|Hg rfl rfl (ae (ak rfl rfl) (br (by(simp))))<|jC 3 rfl<|LL.lg rfl rfl rfl hb1 rfl<|Hg rfl rfl (bd Fo.h rfl rfl rfl)<|jC 1 rfl ?_
    replace hA0:=(hA0.m e1).m e2
    refine Hg rfl rfl (ao Fb.h rfl Xr (hA0.get (j:=0) rfl))<|Hg rfl rfl (ae (ak rfl rfl) (bk (qk0)))<|jD 9 rfl<|jA 2 rfl<|la rfl hb1 ?_
    exact vJ
  ·refine co Tryz.func33 ?_
   have he:am (fun b=>b<w.heap.size∧b≠fb) w w:=am.refl w
   refine jA 2 rfl ?_
   have hs1:=he.s
   refine Hb rfl fun w1 hb1 e1=>?_
   have nx1:=hb1.lt
   have ns1:=e1.s
   replace he:=he.t e1
   have hs2:=he.s
   have hx2b1:=hb1.lt
   refine Ha fun w2 hb2 e2=>?_
   have nx2:=hb2.lt
   have ns2:=e2.s
   refine jD 5 rfl ?_
   replace hb1:=hb1.m e2
   refine ld rfl hb1 rfl<|Hq (ae (ak rfl rfl) (br (qk)))<|jC 2 rfl<|LL.lg rfl rfl rfl hb1 rfl<|jC 1 rfl<|Hg rfl rfl (ae (ak rfl rfl) (bk (by(omega))))<|jD 17 rfl<|jA 2 rfl<|la rfl hb1 ?_
   exact vJ
 ·refine co Tryz.func33 ?_
  have he:am (fun b=>b<w.heap.size∧b≠fb) w w:=am.refl w
  refine jA 2 rfl ?_
  have hs1:=he.s
  refine Hb rfl fun w1 hb1 e1=>?_
  have nx1:=hb1.lt
  have ns1:=e1.s
  replace he:=he.t e1
  have hs2:=he.s
  have hx2b1:=hb1.lt
  refine Ha fun w2 hb2 e2=>?_
  have nx2:=hb2.lt
  have ns2:=e2.s
  refine jD 5 rfl ?_
  replace hb1:=hb1.m e2
  refine ld rfl hb1 rfl<|Hq (ae (ak rfl rfl) (bk (qk)))<|jD 22 rfl<|jA 2 rfl<|la rfl hb1 ?_
  exact vJ
end Go.Proofs.LL
