/- Own laws of frames, operations and loops, and contracts of functions of the program. Conditions: those that each theorem states. -/
import Derived.Test.YtdgbmbjkbmpcbaaGreatDoorV44
set_option linter.all false
set_option maxRecDepth 20000
namespace Go.Proofs.LL
open Go Go.Proofs Go.RowKit
set_option maxHeartbeats 4000000
attribute [local irreducible] RunOp WL WC WDL WT WX
theorem cL{k n:Int}{w:World}:Does TP 44 [.int .i64 k,.int .u64 n] w fun r w'=>r= .agg #[.int .i64 k,.int .u64 n,str [],.slice none 0 0,.int .i64 0,.slice none 0 0]∧Ext w w':=by
 refine doR Tryz.func44 ?_
 have he:Evo (fun _=>True) w w:=Evo.refl w
 refine jA 2 rfl ?_
 have hs1:=he.size
 refine al ?_
 rintro _ w1 ⟨rfl,hb1,e1⟩
 refine jD 5 rfl<|WL.q rfl (r_bld (cs:=[_,_,_,_,_,_]) Fo.h rfl rfl) ?_
 refine WL.l0 (lsw rfl rfl hb1) ?_
 rintro _ w2 ⟨hb1,e2,hz2⟩
 refine WL.nil<|WC.ret ?_
 replace he:=he.then (e1.then e2)
 exact finC rfl hb1 agg_87 ⟨rfl,he⟩
theorem aT{A:Nat→Prop}{w:World}(k k':Int)(n n':Nat)(t t':List UInt8):aa A w [pv k n t,pv k' n' t'] (vc k n t++vc k' n' t'):=by
 rw[aa]
 refine⟨_,_,rfl,eJ k n t,?_⟩
 rw[aa]
 exact⟨_,[],rfl,eJ k' n' t',by rw[aa]⟩
theorem dK{k:Int}{s:List UInt8}{w:World}:Does TP 59 [.int .i64 k,str s] w fun r w'=>∃cs,r= .agg cs.toArray∧(∀A,aa A w' [tV k s,ap] cs)∧Ext w w':=by
 rcases Decidable.em (s=[])with h|h
 ·have e:tV k s=ap:=if_pos h
  rw[e]
  refine doR Tryz.func59 ?_
  have he:Evo (fun _=>True) w w:=Evo.refl w
  refine jA 2 rfl ?_
  have hs1:=he.size
  refine al ?_
  rintro _ w1 ⟨rfl,hb1,e1⟩
  refine jD 5 rfl<|WL.q rfl (r_steqlT rfl rfl (h))<|jD 4 rfl<|WL.q rfl (r_bld (cs:=[_,_,_,_,_,_,_,_,_,_,_,_]) Fo.h rfl rfl) ?_
  refine WL.l0 (lsw rfl rfl hb1) ?_
  rintro _ w2 ⟨hb1,e2,hz2⟩
  refine WL.nil<|WC.ret ?_
  replace he:=he.then (e1.then e2)
  exact finC rfl hb1 agg_89 ⟨_,rfl,fun A=>aT 0 0 0 0 [] [],he⟩
 ·have e:tV k s=pv k 0 s:=if_neg h
  rw[e]
  refine doR Tryz.func59 ?_
  have he:Evo (fun _=>True) w w:=Evo.refl w
  refine jA 2 rfl ?_
  have hs1:=he.size
  refine al ?_
  rintro _ w1 ⟨rfl,hb1,e1⟩
  refine jD 5 rfl<|WL.q rfl (r_steqlF rfl rfl (h))<|jD 3 rfl<|jA 4 rfl<|WL.q rfl (r_bld (cs:=[_,_,_,_,_,_]) Fo.h rfl rfl)<|WL.q rfl (r_bld (cs:=[_,_,_,_,_,_,_,_,_,_,_,_]) Fo.h rfl rfl) ?_
  refine WL.l0 (lsw rfl rfl hb1) ?_
  rintro _ w2 ⟨hb1,e2,hz2⟩
  refine WL.nil<|WC.ret ?_
  replace he:=he.then (e1.then e2)
  exact finC rfl hb1 agg_89 ⟨_,rfl,fun A=>aT k 0 0 0 s [],he⟩
theorem er{A:Nat→Prop}{l:List V}{p:Option Addr}{c:Nat}{w:World}(hK:aD A w l.length (.slice p l.length c) (aa A w l)):Does TP 61 [.slice p l.length c] w fun r w'=>∃cs,r= .agg cs.toArray∧aa A w' [mV l,ap] cs∧Ext w w':=by
 rcases Decidable.em (l=[])with h|h
 ·have e:mV l=ap:=if_pos h
  rw[e]
  refine doR Tryz.func61 ?_
  have he:Evo (fun _=>True) w w:=Evo.refl w
  refine jA 2 rfl ?_
  have hs1:=he.size
  refine al ?_
  rintro _ w1 ⟨rfl,hb1,e1⟩
  refine jD 6 rfl ?_
  refine WL.q rfl (r_cmp (r_eql rfl rfl) (beqT (by(rw[h];rfl)))) ?_
  refine jD 4 rfl<|WL.q rfl (r_bld (cs:=[_,_,_,_,_,_,_,_,_,_,_,_]) Fo.h rfl rfl) ?_
  refine WL.l0 (lsw rfl rfl hb1) ?_
  rintro _ w2 ⟨hb1,e2,hz2⟩
  refine WL.nil<|WC.ret ?_
  replace he:=he.then (e1.then e2)
  exact finC rfl hb1 agg_89 ⟨_,rfl,aT 0 0 0 0 [] [],he⟩
 ·have e:mV l=bk l:=if_neg h
  have h0:0<l.length:=List.length_pos_iff.2 h
  rw[e]
  refine doR Tryz.func61 ?_
  have he:Evo (fun _=>True) w w:=Evo.refl w
  refine jA 2 rfl ?_
  have hs1:=he.size
  refine al ?_
  rintro _ w1 ⟨rfl,hb1,e1⟩
  refine jD 6 rfl ?_
  refine WL.q rfl (r_cmp (r_eql rfl rfl) (beqF (by(omega)))) ?_
  refine jD 3 rfl<|jA 3 rfl<|WL.q rfl (r_bld (cs:=[_,_,_,_,_,_]) Fo.h rfl rfl)<|WL.q rfl (r_bld (cs:=[_,_,_,_,_,_,_,_,_,_,_,_]) Fo.h rfl rfl) ?_
  refine WL.l0 (lsw rfl rfl hb1) ?_
  rintro _ w2 ⟨hb1,e2,hz2⟩
  refine WL.nil<|WC.ret ?_
  replace hK:=hK.mono (e1.then e2)
  have hR:ag A w2 (bk l) _:=ag.mkK hK
  replace he:=he.then (e1.then e2)
  exact finC rfl hb1 agg_89 ⟨_,rfl,by rw[aa];exact⟨_,_,rfl,hR,by rw[aa];exact⟨_,[],rfl,cU,by rw[aa]⟩⟩,he⟩
def eF(fs:List (V×V)):List V:=fs.flatMap aS
structure aN (A:Nat→Prop) (w:World) (code:Nat) (fs:List (V×V)) (cells:List Value):Prop where
 ex:∃p c xs,cells=[.int .u64 (code:Int),.slice p fs.length c]∧fs.length≤c∧aa A w (eF fs) xs∧(fs=[]∨∃b o,p=some ⟨b,o,none⟩∧A b∧At w b o xs)
theorem aN.mono{A B:Nat→Prop}{w w':World}{code:Nat}{fs:List (V×V)}{cells:List Value}(h:aN A w code fs cells)(e:Evo B w w')(hAB:∀b,b<w.heap.size→A b→B b:=by(intro b hb1 hb2;first|exact trivial|exact hb2|exact hb2.2|((try dsimp only[Nb]at hb2⊢);omega))):aN A w' code fs cells:=by
 obtain⟨p,c,xs,h1,h2,h3,h4⟩:=h
 exact⟨p,c,xs,h1,h2,h3.mono' e hAB,h4.imp id fun⟨b,o,e1,e2,e3⟩=>⟨b,o,e1,e2,e3.growP e hAB e2⟩⟩
theorem aN.low{A B:Nat→Prop}{w:World}{code:Nat}{fs:List (V×V)}{cells:List Value}(h:aN A w code fs cells)(hAB:∀b,A b→B b):aN B w code fs cells:=by
 obtain⟨p,c,xs,h1,h2,h3,h4⟩:=h
 exact⟨p,c,xs,h1,h2,h3.weaken hAB,h4.imp id fun⟨b,o,e1,e2,e3⟩=>⟨b,o,e1,hAB b e2,e3⟩⟩
theorem eh(fs:List (V×V)):(eF fs).length=2 * fs.length:=aK fs
theorem aN.lowW{A B:Nat→Prop}{w:World}{code:Nat}{fs:List (V×V)}{cells:List Value}(h:aN A w code fs cells)(hAB:∀b,b<w.heap.size→A b→B b):aN B w code fs cells:=by
 obtain⟨p,c,xs,h1,h2,h3,h4⟩:=h
 refine⟨p,c,xs,h1,h2,h3.weakenW hAB,?_⟩
 rcases h4 with h4|⟨b,o,e1,e2,e3⟩
 ·exact .inl h4
 ·rcases Nat.eq_zero_or_pos fs.length with h0|h0
  ·exact .inl (List.eq_nil_of_length_eq_zero h0)
  ·have hl:=h3.len
   rw[eh]at hl
   have hc:=e3 0 (by omega)
   rw[List.getElem?_eq_getElem (by omega)]at hc
   exact .inr ⟨b,o,e1,hAB b (lt_of_cell hc) e2,e3⟩
theorem aa.at12{A:Nat→Prop}{w:World}:∀ {fs:List (V×V)} {xs:List Value} {i:Nat} (hi:i<fs.length),aa A w (eF fs) xs→∃pre c1 c2 post,xs=pre++((c1++c2)++post)∧pre.length=i * 12∧ag A w fs[i].1 c1∧ag A w fs[i].2 c2
 |[],_,i,hi,_=>absurd hi (by simp)
 |f::r,xs,0,hi,h=>by
  have h':aa A w (f.1::f.2::eF r) xs:=h
  rw[aa]at h'
  obtain⟨c1,c',rfl,h1,h2⟩:=h'
  rw[aa]at h2
  obtain⟨c2,c'',rfl,h3,h4⟩:=h2
  exact⟨[],c1,c2,c'',by simp,rfl,h1,h3⟩
 |f::r,xs,i+1,hi,h=>by
  have h':aa A w (f.1::f.2::eF r) xs:=h
  rw[aa]at h'
  obtain⟨c1,c',rfl,h1,h2⟩:=h'
  rw[aa]at h2
  obtain⟨c2,c'',rfl,h3,h4⟩:=h2
  obtain⟨pre,d1,d2,post,rfl,e2,h5,h6⟩:=aa.at12 (i:=i) (by simpa using hi) h4
  refine⟨c1++(c2++pre),d1,d2,post,by simp,?_,h5,h6⟩
  rw[List.length_append,List.length_append,h1.len,h3.len];omega
theorem At.pre{w:World}{b o:Nat}{c d:List Value}(h:At w b o (c++d)):At w b o c:=fun j hj=>by
 rw[h j (by simp;omega),List.getElem?_append_left hj]
theorem At.suf{w:World}{b o:Nat}{c d:List Value}(h:At w b o (c++d)):At w b (o+c.length) d:=fun j hj=>by
 have:=h (c.length+j) (by simp;omega)
 rw[List.getElem?_append_right (by omega)]at this
 rw[Nat.add_assoc,this];congr 1;omega
def bC(code:Nat)(fs:List (V×V)):V:= .mk 21 0 [] (fs.map (·.1)) 0 [uV code]
theorem aa.pushG{R:Nat→Prop}{wi w5:World}{sv v5:Value}{cs c':List Value}{ys ys':List V}(hV:aa (fun b=>R b∧sv.ownBlock≠some b) wi ys cs)(hy:aa (fun b=>R b∧sv.ownBlock≠some b) wi ys' c')
  (e5:Evo (fun k=>sv.ownBlock≠some k) wi w5) (hob:v5.ownBlock=sv.ownBlock∨∀b,v5.ownBlock=some b→wi.heap.size≤b):aa (fun b=>R b∧v5.ownBlock≠some b) w5 (ys++ys') (cs++c'):=by
 have h1:aa (fun b=>(R b∧sv.ownBlock≠some b)∧b<wi.heap.size) wi (ys++ys') (cs++c'):=(hV.append hy).weakenW fun b hb h=>⟨h,hb⟩
 refine(h1.mono' e5 (fun b _ h=>h.1.2)).weaken fun b h=>⟨h.1.1,fun e=>?_⟩
 rcases hob with h3|h3
 ·rw[h3]at e;exact h.1.2 e
 ·have:=h3 b e;omega
theorem pE{P:Program}{ρ:Fr}{ty:TypeId}{s x:Operand}{w:World}{R:Nat→Prop}{B t tx n m bs:Nat}{zv v u:Value}{ys ys':List V}{cs news:List Value}(ht:slZ P t=some (87,6,bs,zv))(hs:ov ρ s=some v)(hx:ov ρ x=some u)(hown:Own B 87 6 w v n cs)(hV:aa (fun b=>R b∧v.ownBlock≠some b) w ys cs)(hy:aa (fun b=>R b∧v.ownBlock≠some b) w ys' news)(hsrc:Src P 6 tx u m news w)(hB:B≤w.heap.size)(h63:n+m≤maxLen)(hbytes:(n+m) * bs≤140737488355328):
  LoudOp P (.call ⟨.builtin .append, #[s,x], #[t,tx]⟩) ty ρ w (fun v' w'=>Own B 87 6 w' v' (n+m) (cs++news)∧aa (fun b=>R b∧v'.ownBlock≠some b) w' (ys++ys') (cs++news)∧Evo (fun k=>k<B) w w'):=
 (l_appO ht hs hx hown hsrc hB h63 hbytes).imp fun v' w' ⟨h1,h2,h3⟩=>⟨h1,aa.pushG hV hy h2 h3,hown.evo (w0:=w) h2⟩
theorem lp{fs:List (V×V)}{i:Nat}(hi:i<fs.length):(fs.take (i+1)).map (·.1)=(fs.take i).map (·.1)++[fs[i].1]:=by
 rw[← List.take_append_getElem hi,List.map_append];rfl
theorem aD.at1{A:Nat→Prop}{w:World}{b c:Nat}{x:V}{cs:List Value}(h1:At w b 0 cs)(hb:A b)(hc:1≤c)(hx:ag A w x cs):aD A w [x].length (.slice (some ⟨b,0,none⟩) 1 c) (aa A w [x]):=
 ⟨_,c,cs,rfl,hc,aa.one hx,.inr ⟨b,0,rfl,hb,h1⟩⟩
theorem aN.open{A:Nat→Prop}{w:World}{code:Nat}{fs:List (V×V)}{cells:List Value}(h:aN A w code fs cells):∃p c,cells=[.int .u64 (code:Int),.slice p fs.length c]:=by
 obtain⟨p,c,xs,h1,_⟩:=h
 exact⟨p,c,h1⟩
theorem aN.idx{A:Nat→Prop}{w:World}{code:Nat}{fs:List (V×V)}{p:Option Addr}{c i:Nat}(h:aN A w code fs [.int .u64 (code:Int),.slice p fs.length c])(hi:i<fs.length):
  ∃b o a0 a1 a2 a3 a4 a5 b0 b1 b2 b3 b4 b5,p=some ⟨b,o,none⟩∧A b∧At w b (o+i * 12) [a0,a1,a2,a3,a4,a5,b0,b1,b2,b3,b4,b5]∧ag A w fs[i].1 [a0,a1,a2,a3,a4,a5]∧ag A w fs[i].2 [b0,b1,b2,b3,b4,b5]∧fs.length≤c:=by
 obtain⟨p',c',xs,h1,h2,h3,h4⟩:=h
 simp only[List.cons.injEq,Value.slice.injEq,true_and,and_true]at h1
 obtain⟨rfl,rfl⟩:=h1
 rcases h4 with h4|⟨b,o,e1,e2,e3⟩
 ·rw[h4]at hi;exact absurd hi (by simp)
 ·obtain⟨pre,c1,c2,post,e,ep,r1,r2⟩:=h3.at12 hi
  obtain⟨a0,a1,a2,a3,a4,a5,rfl⟩:=r1.six
  obtain⟨b0,b1,b2,b3,b4,b5,rfl⟩:=r2.six
  rw[e]at e3
  have q:=e3.mid
  rw[ep]at q
  exact⟨b,o,a0,a1,a2,a3,a4,a5,b0,b1,b2,b3,b4,b5,e1,e2,q,r1,r2,h2⟩
theorem cY{l m:List Value}(h1:l.all (fun v=>v.oneCell')=true)(h2:m.all (fun v=>v.oneCell')=true):(l++m).all (fun v=>v.oneCell')=true:=by
 rw[List.all_append,h1,h2];rfl
theorem g7{A:Nat→Prop}{code:Nat}{fs:List (V×V)}{cells:List Value}{w:World}(hC:aN A w code fs cells)(hl:fs.length≤1000):
  Does TP 30 [.agg cells.toArray] w fun r w'=>∃sv sd cs,r= .agg #[.int .i64 21,.int .u64 0,str [],sv,.int .i64 0,sd]∧Own w.heap.size 87 6 w' sv fs.length cs∧aa (fun b=>A b∧b<w.heap.size) w' (fs.map (·.1)) cs∧aD (fun b=>w.heap.size≤b∧sv.ownBlock≠some b) w' 1 sd (aa (fun b=>w.heap.size≤b∧sv.ownBlock≠some b) w' [uV code])∧Ext w w':=by
 replace hC:=(hC.lowW (B:=fun b=>A b∧b<w.heap.size) fun b hb h=>⟨h,hb⟩)
 obtain⟨p,c,rfl⟩:=hC.open
 refine doR Tryz.func30 ?_
 have he:Evo (fun b=>b<w.heap.size) w w:=Evo.refl w
 refine jA 2 rfl ?_
 have hs1:=he.size
 refine bx rfl ?_
 rintro _ w1 ⟨rfl,hb1,e1⟩
 have nx1:=hb1.lt
 have ns1:=e1.size
 replace he:=he.then e1
 have hs2:=he.size
 have hx2b1:=hb1.lt
 refine al ?_
 rintro _ w2 ⟨rfl,hb2,e2⟩
 have nx2:=hb2.lt
 have ns2:=e2.size
 refine jD 4 rfl ?_
 replace hb1:=hb1.mono e2
 refine ld rfl hb1 rfl ?_
 refine cl rfl (cL) ?_
 rintro v3 w3 ⟨rfl,e3⟩
 have ns3:=e3.size
 replace he:=(he.then e2).then e3
 have hs4:=he.size
 replace hb1:=hb1.mono e3
 have hx4b1:=hb1.lt
 replace hb2:=hb2.mono e3
 have hx4b2:=hb2.lt
 refine WL.l rfl (ll [_]) ?_
 rintro _ w4 ⟨rfl,hb4,e4⟩
 have ns4:=e4.size
 refine WL.q rfl (r_bld (cs:=[_,_,_,_,_,_]) Fo.h rfl rfl) ?_
 replace he:=he.then e4
 have hs5:=he.size
 replace hb1:=hb1.mono e4
 have hx5b1:=hb1.lt
 replace hb2:=hb2.mono e4
 have hx5b2:=hb2.lt
 have hx5b4:=hb4.lt
 refine al ?_
 rintro _ w5 ⟨rfl,hb5,e5⟩
 have nx5:=hb5.lt
 have ns5:=e5.size
 refine WL.l0 (lsw rfl rfl hb5) ?_
 rintro _ w6 ⟨hb5,e6,hz6⟩
 have ns6:=e6.size
 refine jD 5 rfl ?_
 replace hb1:=hb1.mono (e5.then e6)
 refine ld rfl hb1 rfl<|jD 4 rfl ?_
 obtain⟨N1,eN1⟩:∃M,M=w6.heap.size:=⟨_,rfl⟩
 replace hC:=((((hC.mono e1).mono e2).mono e3).mono e4).mono (e5.then e6)
 replace hb2:=hb2.mono (e5.then e6)
 replace hb4:=hb4.mono (e5.then e6)
 replace he:=he.then (e5.then e6)
 refine WC.loop2 (ι:=Nat) [(2,_),(3,_),(12,_),(13,_)] (fun i=>[(14,.int .i64 (i:Int))]) (fun i wi=>(∃sv cs,Blk wi w4.heap.size [.int .i64 21,.int .u64 0,str [],sv,.int .i64 0,.slice (some ⟨w3.heap.size,0,none⟩) 1 1]∧Own N1 87 6 wi sv i cs∧aa (fun b=>(A b∧b<w.heap.size)∧sv.ownBlock≠some b) wi ((fs.take i).map (·.1)) cs)∧i≤fs.length∧Evo (fun b=>b<N1∧b≠w4.heap.size) w6 wi) (fun i=>fs.length-i) 0 sb sb (⟨⟨_,[],hb5,Own.nil _ _ _ _,by rw[List.take_zero,List.map_nil,aa]⟩,Nat.zero_le _,Evo.refl _⟩) ?_
 intro i wi1 hh;obtain⟨⟨sv,cs,hb5,hO,hV⟩,ni,hE⟩:=hh
 have nwi:=hE.size
 rcases Nat.lt_or_ge i fs.length with qi|qi
 replace hC:=hC.mono hE
 ·obtain⟨b,o,a0,a1,a2,a3,a4,a5,b0,b1,b2,b3,b4,b5,rfl,qA,hA,hR,qR2,qc⟩:=hC.idx qi
  have qbel:=hO.below
  have q1:=hR.one
  have q12:[a0,a1,a2,a3,a4,a5,b0,b1,b2,b3,b4,b5].all (fun v=>v.oneCell')=true:=cY q1 qR2.one
  replace hR:=hR.weaken (B:=fun b=>(A b∧b<w.heap.size)∧sv.ownBlock≠some b) fun b h=>⟨h,qbel.2 b (by omega)⟩
  refine jA 2 rfl<|lT rfl rfl<|jD 8 rfl<|ix rfl rfl rfl<|WL.q rfl (r_loadAgg Fo.h rfl (Ext.refl _) hA (hn:=rfl)) ?_
  replace he:=he.then hE
  have hs7:=he.size
  replace hb1:=hb1.mono hE
  have hx7b1:=hb1.lt
  replace hb2:=hb2.mono hE
  have hx7b2:=hb2.lt
  replace hb4:=hb4.mono hE
  have hx7b4:=hb4.lt
  have hx7b5:=hb5.lt
  refine al ?_
  rintro _ w7 ⟨rfl,hb7,e7⟩
  have nx7:=hb7.lt
  have ns7:=e7.size
  refine WL.l0 (lsw rfl rfl hb7) ?_
  rintro _ w8 ⟨hb7,e8,hz8⟩
  have ns8:=e8.size
  refine jD 3 rfl ?_
  replace hb5:=hb5.mono (e7.then e8)
  refine ld rfl hb5 rfl<|jC 1 rfl<|WL.q rfl (r_loadAgg Fo.h rfl (Ext.refl _) (At.pre (c:=[_,_,_,_,_,_]) hb7.at) (hn:=rfl)) ?_
  replace he:=he.then (e7.then e8)
  have hs9:=he.size
  replace hb1:=hb1.mono (e7.then e8)
  have hx9b1:=hb1.lt
  replace hb2:=hb2.mono (e7.then e8)
  have hx9b2:=hb2.lt
  replace hb4:=hb4.mono (e7.then e8)
  have hx9b4:=hb4.lt
  have hx9b5:=hb5.lt
  have hx9b7:=hb7.lt
  refine WL.l rfl (ll [_]) ?_
  rintro _ w9 ⟨rfl,hb9,e9⟩
  have ns9:=e9.size
  replace hO:=(hO.mono (e7.then e8)).mono e9
  replace hV:=(hV.mono (e7.then e8)).mono e9
  replace hR:=(hR.mono (e7.then e8)).mono e9
  refine WL.l rfl (pE Fo.h rfl rfl hO hV (aa.one hR) (Src.at Fb.h hb9.at rfl q1) (by omega) (by simp only[maxLen];omega) (by omega)) ?_
  rintro v10 w10 ⟨hO,hV,e10⟩
  obtain⟨q10,c10,hq10,_,_⟩:=hO.form
  subst hq10
  have ns10:=e10.size
  refine jC 1 rfl ?_
  replace hb5:=(hb5.mono e9).mono e10
  refine WL.l0 (lst rfl rfl hb5) ?_
  rintro _ w11 ⟨hb5,e11,hz11⟩
  have ns11:=e11.size
  refine jD 2 rfl<|ai rfl rfl rfl<|jC 2 rfl ?_
  replace hV:=hV.mono e11
  rw[← lp qi]at hV
  replace hO:=hO.mono e11
  exact⟨(i+1),sb,sb,⟨⟨_,_,hb5,hO,hV⟩,qi,(((((hE.then (e7.then e8)).then e9).then e10).then e11))⟩,(by show fs.length-(i+1)<fs.length-i;omega)⟩
 ·have hil:i=fs.length:=by omega
  obtain⟨q0,c0,hq0,_,_⟩:=hO.form
  subst hq0
  have qbel:=hO.below
  refine jA 2 rfl<|lF rfl rfl<|jD 3 rfl<|WC.exit<|jA 2 rfl<|la rfl hb5 ?_
  replace hb2:=hb2.mono hE
  refine WL.l0 (lsw rfl rfl hb2) ?_
  rintro _ w7 ⟨hb2,e7,hz7⟩
  have ns7:=e7.size
  refine WL.nil<|WC.ret ?_
  replace hV:=hV.mono e7
  rw[hil,List.take_length]at hV
  subst hil
  replace hb4:=(hb4.mono hE).mono e7
  replace hO:=hO.mono e7
  replace he:=(he.then hE).then e7
  exact finC rfl hb2 agg_87 ⟨_,_,cs,rfl,hO.low (by omega),hV.weaken fun b h=>h.1,aD.at1 hb4.at ⟨by omega,qbel.2 _ (by omega)⟩ (Nat.le_refl _) (eJ 5 code [] (A:=_)),he.weaken fun k hk _=>hk⟩
theorem aa.two{A:Nat→Prop}{w:World}{x y:V}{cs:List Value}(h:aa A w [x,y] cs):∃a0 a1 a2 a3 a4 a5 b0 b1 b2 b3 b4 b5,cs=[a0,a1,a2,a3,a4,a5,b0,b1,b2,b3,b4,b5]∧ag A w x [a0,a1,a2,a3,a4,a5]∧ag A w y [b0,b1,b2,b3,b4,b5]:=by
 rw[aa]at h
 obtain⟨c1,c',rfl,h1,h2⟩:=h
 rw[aa]at h2
 obtain⟨c2,c'',rfl,h3,h4⟩:=h2
 rw[aa]at h4
 subst h4
 obtain⟨a0,a1,a2,a3,a4,a5,rfl⟩:=h1.six
 obtain⟨b0,b1,b2,b3,b4,b5,rfl⟩:=h3.six
 exact⟨a0,a1,a2,a3,a4,a5,b0,b1,b2,b3,b4,b5,rfl,h1,h3⟩
theorem aa.mk2{A:Nat→Prop}{w:World}{x y:V}{c c':List Value}(h:ag A w x c)(h':ag A w y c'):aa A w [x,y] (c++c'):=(aa.one h).append (aa.one h')
theorem dT{A:Nat→Prop}{code:Nat}{fs:List (V×V)}{cells:List Value}{w:World}(hC:aN A w code fs cells)(hl:fs.length≤1000):
  Does TP 30 [.agg cells.toArray] w fun r w'=>∃a b c d e f,r= .agg #[a,b,c,d,e,f]∧ag (fun b=>A b∧b<w.heap.size∨w.heap.size≤b) w' (bC code fs) [a,b,c,d,e,f]∧Ext w w':=by
 refine(g7 hC hl).imp fun r w' ⟨sv,sd,cs,h1,h2,h3,h4,h5⟩=>?_
 refine⟨_,_,_,_,_,_,h1,?_,h5⟩
 rw[bC,ag]
 exact⟨_,_,rfl,aD.own h2 (by simp) (h3.weaken fun b h=> .inl h) fun b hb _=> .inr hb,h4.low (n:=1) (l:=[uV code]) fun b h=> .inr h.1⟩
theorem aN.lit{A:Nat→Prop}{w:World}{code n b:Nat}{fs:List (V×V)}{xs:List Value}(hn:fs.length=n)(hB:Blk w b xs)(hb:A b)(hX:aa A w (eF fs) xs):aN A w code fs [.int .u64 (code:Int),.slice (some ⟨b,0,none⟩) n n]:=by
 subst hn
 exact⟨_,_,xs,rfl,Nat.le_refl _,hX,.inr ⟨b,0,rfl,hb,hB.at⟩⟩
structure g0 (A:Nat→Prop) (w:World) (l:List se) (v:Value):Prop where
 ex:∃p c,v= .slice p l.length c∧l.length≤c∧(l=[]∨∃cc d i b o pi ci,l=[(cc,d,i)]∧p=some ⟨b,o,none⟩∧A b∧b<w.heap.size∧At w b o [str cc,str d,.slice pi i.length ci]∧aD A w i.length (.slice pi i.length ci) (aa A w i))
theorem g0.mono{A B:Nat→Prop}{w w':World}{l:List se}{v:Value}(h:g0 A w l v)(e:Evo B w w')(hAB:∀b,b<w.heap.size→A b→B b:=by(intro b hb1 hb2;first|exact trivial|exact hb2|exact hb2.2|((try dsimp only[Nb]at hb2⊢);omega))):g0 A w' l v:=by
 obtain⟨p,c,h1,h2,h3⟩:=h
 refine⟨p,c,h1,h2,h3.imp id fun⟨cc,d,i,b,o,pi,ci,e1,e2,e3,e4,e5,e6⟩=>⟨cc,d,i,b,o,pi,ci,e1,e2,e3,Nat.lt_of_lt_of_le e4 e.size,e5.growP e hAB e3,e6.mono e hAB⟩⟩
theorem g0.lowW{A B:Nat→Prop}{w:World}{l:List se}{v:Value}(h:g0 A w l v)(hAB:∀b,b<w.heap.size→A b→B b):g0 B w l v:=by
 obtain⟨p,c,h1,h2,h3⟩:=h
 refine⟨p,c,h1,h2,h3.imp id fun⟨cc,d,i,b,o,pi,ci,e1,e2,e3,e4,e5,e6⟩=>⟨cc,d,i,b,o,pi,ci,e1,e2,hAB b e4 e3,e4,e5,e6.weakW hAB⟩⟩
theorem aN.one{A:Nat→Prop}{w:World}{code:Nat}{fs:List (V×V)}{cells:List Value}(h:aN A w code fs cells):cells.all (fun v=>v.oneCell')=true:=by
 obtain⟨p,c,rfl⟩:=h.open
 rfl
end Go.Proofs.LL
namespace Go.Proofs.LL
open Go Go.Proofs Go.RowKit
set_option maxHeartbeats 4000000
attribute [local irreducible] RunOp WL WC WDL WT WX
theorem aa.set{A:Nat→Prop}{w:World}:∀ {ys:List V} {cs:List Value} {i:Nat} {y:V} {c:List Value},i<ys.length→aa A w ys cs→ag A w y c→aa A w (ys.set i y) (cs.take (i * 6)++c++cs.drop (i * 6+c.length))
 |[],_,i,_,_,hi,_,_=>absurd hi (by simp)
 |x::r,cs,0,y,c,_,h,hy=>by
  rw[aa]at h
  obtain⟨c0,c',rfl,h1,h2⟩:=h
  have l0:=h1.len
  have l1:=hy.len
  simp only[List.set_cons_zero,Nat.zero_mul,List.take_zero,List.nil_append,Nat.zero_add]
  rw[aa]
  refine⟨c,c',?_,hy,h2⟩
  rw[l1,← l0,List.drop_left]
 |x::r,cs,i+1,y,c,hi,h,hy=>by
  rw[aa]at h
  obtain⟨c0,c',rfl,h1,h2⟩:=h
  have l0:=h1.len
  have ih:=aa.set (i:=i) (by simpa using hi) h2 hy
  simp only[List.set_cons_succ]
  rw[aa]
  refine⟨c0,_,?_,h1,ih⟩
  have e1:(i+1) * 6=c0.length+i * 6:=by omega
  rw[e1,Nat.add_assoc,List.take_length_add_append,List.drop_length_add_append,List.append_assoc,List.append_assoc,List.append_assoc]
theorem aa.take{A:Nat→Prop}{w:World}:∀ {ys:List V} {cs:List Value} (m:Nat),aa A w ys cs→aa A w (ys.take m) (cs.take (m * 6))
 |[],cs,m,h=>by rw[aa]at h;subst h;simp[aa]
 |x::r,cs,0,h=>by simp[aa]
 |x::r,cs,m+1,h=>by
  rw[aa]at h
  obtain⟨c0,c',rfl,h1,h2⟩:=h
  have l0:=h1.len
  rw[List.take_succ_cons,aa]
  refine⟨c0,c'.take (m * 6),?_,h1,aa.take m h2⟩
  have e1:(m+1) * 6=c0.length+m * 6:=by omega
  rw[e1,List.take_length_add_append]
theorem At.takeL{w:World}{b o:Nat}{c:List Value}(h:At w b o c)(n:Nat):At w b o (c.take n):=by
 have h2:At w b o (c.take n++c.drop n):=by rw[List.take_append_drop];exact h
 exact h2.pre
theorem Own.at0{B e z n g c:Nat}{w:World}{xs:List Value}(h:Own B e z w (.slice (some ⟨g,0,none⟩) n c) n xs)(hn:0<n):At w g 0 xs∧g<w.heap.size∧B≤g∧n≤c:=by
 obtain⟨p,c',e1,e2,e3⟩:=h.form
 obtain⟨b,e4,e5,e6,e7⟩:=e3 hn
 simp only[Value.slice.injEq]at e1
 obtain⟨e1,_,rfl⟩:=e1
 rw[e4]at e1
 simp only[Option.some.injEq,Addr.mk.injEq]at e1
 obtain⟨rfl,_⟩:=e1
 exact⟨e7,e6,e5,e2⟩
theorem jc{α:Type}{L vs:List α}{j N:Nat}(h1:j+vs.length≤N)(h2:N≤L.length):(L.take j++vs++L.drop (j+vs.length)).take N=(L.take N).take j++vs++(L.take N).drop (j+vs.length):=by
 have e1:(L.take j).length=j:=by rw[List.length_take];omega
 rw[List.take_append,List.take_append,List.length_append,e1,List.take_take,List.take_take,List.drop_take,Nat.min_eq_right (by omega),Nat.min_eq_left (by omega),List.take_of_length_le (show vs.length≤N-j by omega)]
theorem bD{P:Program}{ρ:Fr}{w:World}{ty:TypeId}{x y:Operand}{t B e z n c g i j:Nat}{xs vs:List Value}(ht:szT P t=some z)(hx:ov ρ x=some (.pointer (some ⟨g,j,none⟩)))(hy:ov ρ y=some (.agg vs.toArray))(hv:vs.all (fun v=>v.oneCell')=true)(hn:vs.length=z)(hO:Own B e z w (.slice (some ⟨g,0,none⟩) n c) n xs)(hj:j=i * z)(hi:i<n):
  LoudOp P (.store t x y) ty ρ w (fun _ w'=>Own B e z w' (.slice (some ⟨g,0,none⟩) n c) n (xs.take (i * z)++vs++xs.drop (i * z+vs.length))∧Evo (fun k=>k≠g) w w'∧w'.heap.size=w.heap.size):=by
 subst hj
 obtain⟨hl,hr|⟨g',cap,cur,h3,h4,h5,h6,h7,h8,h9⟩⟩:=hO.row
 ·cases hr.1
 ·simp only[Value.slice.injEq,Option.some.injEq,Addr.mk.injEq]at h3
  obtain⟨⟨rfl,_⟩,_,rfl⟩:=h3
  obtain⟨q,hq,hs⟩:=Option.map_eq_some_iff.1 ht
  have hle:(i+1) * z≤n * z:=Nat.mul_le_mul_right z hi
  have hle2:n * z≤c * z:=Nat.mul_le_mul_right z h6
  rw[Nat.add_mul,Nat.one_mul]at hle
  have hst:=run_storeCells_at (P:=P) g (i * z) e vs 0 cur w h5 (by omega) (fun v h=>by simpa using(List.all_eq_true.1 hv) v h)
  have hcl:cur.toList.length=c * z:=by simp[h8]
  refine LoudOp.of_skip fun N D a dst pos af gg ha=>⟨w.setRow g (cur.toList.take (i * z)++vs++cur.toList.drop (i * z+vs.length)).toArray,?_,⟨?_,.inr ⟨g,c,(cur.toList.take (i * z)++vs++cur.toList.drop (i * z+vs.length)).toArray,rfl,h4,setRow_heap w g cur _ e (0,0) h5,h6,h7,?_,?_⟩⟩,⟨rfl,rfl,rfl,by simp,fun k _ hk=>setRow_other w g k _ hk⟩,by simp⟩
  ·simp only[Nat.add_zero]at hst
   simp[execOp,ha.ov hx,ha.ov hy,Instr.storeAt,Instr.sureAddr,storeVar,sizeOf,typeInfo,hq,hs,Value.cells,hn,hst]
  ·simp;omega
  ·simp;omega
  ·rw[← h9]
   exact jc (by omega) (by omega)
theorem js{A:Prop}(h:A:=by
 refine WL.l0 (lsw rfl rfl hb2) ?_
 rintro _ w3 ⟨hb2,e3,hz3⟩
 have ns3:=e3.size
 refine WL.nil<|WC.ret ?_
 replace hx:=(hx.mono e1).mono (e2.then e3)
 replace hF:=(hF.mono e1).mono (e2.then e3)
 replace he:=he.then (e2.then e3)
 exact finC rfl hb2 agg_87 ⟨_,_,_,_,_,_,_,rfl,.inl rfl,hx,hF,he.weaken fun b hb h=>⟨hb,h⟩⟩):A:=h
def rW(v y:V):Prop:=y=v∨(v.kind=23∧∃s,v.kids=[s]∧s.kind=20∧y=s)
theorem cS{A:Nat→Prop}{x:V}{cx:List Value}{fb:Nat}{w:World}(hx:ag A w x cx)(hF:Fm w fb)(hA:∀b,A b→b≠fb):
  Does TP 33 [.pointer (some ⟨fb,0,none⟩),.agg cx.toArray] w fun r w'=>∃y a b c d e f,r= .agg #[a,b,c,d,e,f]∧rW x y∧ag (fun b=>A b∧b<w.heap.size∧b≠fb) w' y [a,b,c,d,e,f]∧Fm w' fb∧Evo (fun k=>k≠fb) w w':=by
 replace hx:=hx.weakenW (B:=fun b=>A b∧b<w.heap.size∧b≠fb) (fun b hb h=>⟨h,hb,hA b h⟩)
 have hfl:=hF.lt
 obtain⟨k,n,t,ks,o,d⟩:=x
 obtain⟨pk,ck,pd,cd,rfl,_,_,hK,_⟩:=hx.openV
 rcases Decidable.em (k=23)with qk|qk
 ·rcases Decidable.em (ks.length=1)with q1|q1
  ·obtain⟨b0,o0,c0,rfl,qA0,hA0,l0,hR0⟩:=hK.kid (i:=0) (by omega)
   obtain⟨s,rfl⟩:=List.length_eq_one_iff.1 q1
   have hRs:ag (fun b=>A b∧b<w.heap.size∧b≠fb) w s c0:=hR0
   obtain⟨k0,n0,t0,ks0,oo0,d0⟩:=s
   obtain⟨pk0,ck0,pd0,cd0,rfl,_,_,_,_⟩:=hRs.openV
   have q1s:=hRs.one
   rcases Decidable.em (k0=20)with qk0|qk0
   ·refine doR Tryz.func33 ?_
    have he:Evo (fun b=>b<w.heap.size∧b≠fb) w w:=Evo.refl w
    refine jA 2 rfl ?_
    have hs1:=he.size
    refine bx rfl ?_
    rintro _ w1 ⟨rfl,hb1,e1⟩
    have nx1:=hb1.lt
    have ns1:=e1.size
    replace he:=he.then e1
    have hs2:=he.size
    have hx2b1:=hb1.lt
    refine al ?_
    rintro _ w2 ⟨rfl,hb2,e2⟩
    have nx2:=hb2.lt
    have ns2:=e2.size
    refine jD 5 rfl ?_
    replace hb1:=hb1.mono e2
    refine ld rfl hb1 rfl<|WL.q rfl (r_cmp (r_eql rfl rfl) (beqT (qk)))<|jC 2 rfl<|LL.lg rfl rfl rfl hb1 rfl<|jC 1 rfl ?_
    refine WL.qg rfl rfl rfl rfl (r_cmp (r_eql rfl rfl) (beqT (by(simp)))) ?_
    refine jC 3 rfl<|LL.lg rfl rfl rfl hb1 rfl ?_
    refine WL.qg rfl rfl rfl rfl (r_idx Fo.h rfl rfl rfl (by first|omega|(simp;done)|(simp;omega))) ?_
    refine jC 1 rfl ?_
    replace hA0:=(hA0.mono e1).mono e2
    refine WL.qg rfl rfl rfl rfl (r_load Fb.h rfl (Ext.refl _) (hA0.get (j:=0) rfl)) ?_
    refine WL.qg rfl rfl rfl rfl (r_cmp (r_eql rfl rfl) (beqT (qk0)))<|jC 3 rfl ?_
    replace hF:=(hF.mono e1).mono e2
    refine WL.lg rfl rfl rfl rfl (l_do Fb.h rfl (cT (n:=2) hF (by omega) (by omega))) ?_
    rintro v3 w3 ⟨⟨ki,qki,rfl⟩,hF,e3⟩
    have ns3:=e3.size
    rcases Nat.eq_zero_or_pos ki with q|q
    ·refine WL.qg rfl rfl rfl rfl (r_cmp (r_eql rfl rfl) (beqT (by(omega)))) ?_
     refine jD 6 rfl ?_
     replace hb1:=hb1.mono e3
     refine ld rfl hb1 rfl<|ix rfl rfl rfl ?_
     replace hA0:=hA0.mono e3
     refine WL.q rfl (r_loadAgg Fo.h rfl (Ext.refl _) hA0 (hn:=rfl)) ?_
     replace hb2:=hb2.mono e3
     refine WL.l0 (lsw rfl rfl hb2) ?_
     rintro _ w4 ⟨hb2,e4,hz4⟩
     have ns4:=e4.size
     refine WL.nil<|WC.ret ?_
     replace hF:=hF.mono e4
     replace hRs:=(((hRs.mono e1).mono e2).mono e3).mono e4
     replace he:=((he.then e2).then e3).then e4
     exact finC rfl hb2 agg_87 ⟨_,_,_,_,_,_,_,rfl,.inr ⟨qk,_,rfl,qk0,rfl⟩,hRs,hF,he.weaken fun b hb h=>⟨hb,h⟩⟩
    ·refine WL.qg rfl rfl rfl rfl (r_cmp (r_eql rfl rfl) (beqF (by(omega)))) ?_
     refine jD 4 rfl<|jA 2 rfl ?_
     replace hb1:=hb1.mono e3
     refine la rfl hb1 ?_
     replace hb2:=hb2.mono e3
     refine WL.l0 (lsw rfl rfl hb2) ?_
     rintro _ w4 ⟨hb2,e4,hz4⟩
     have ns4:=e4.size
     refine WL.nil<|WC.ret ?_
     replace hx:=(((hx.mono e1).mono e2).mono e3).mono e4
     replace hF:=hF.mono e4
     replace he:=((he.then e2).then e3).then e4
     exact finC rfl hb2 agg_87 ⟨_,_,_,_,_,_,_,rfl,.inl rfl,hx,hF,he.weaken fun b hb h=>⟨hb,h⟩⟩
   ·refine doR Tryz.func33 ?_
    have he:Evo (fun b=>b<w.heap.size∧b≠fb) w w:=Evo.refl w
    refine jA 2 rfl ?_
    have hs1:=he.size
    refine bx rfl ?_
    rintro _ w1 ⟨rfl,hb1,e1⟩
    have nx1:=hb1.lt
    have ns1:=e1.size
    replace he:=he.then e1
    have hs2:=he.size
    have hx2b1:=hb1.lt
    refine al ?_
    rintro _ w2 ⟨rfl,hb2,e2⟩
    have nx2:=hb2.lt
    have ns2:=e2.size
    refine jD 5 rfl ?_
    replace hb1:=hb1.mono e2
    refine ld rfl hb1 rfl<|WL.q rfl (r_cmp (r_eql rfl rfl) (beqT (qk)))<|jC 2 rfl<|LL.lg rfl rfl rfl hb1 rfl<|jC 1 rfl ?_
    refine WL.qg rfl rfl rfl rfl (r_cmp (r_eql rfl rfl) (beqT (by(simp)))) ?_
    refine jC 3 rfl<|LL.lg rfl rfl rfl hb1 rfl ?_
    refine WL.qg rfl rfl rfl rfl (r_idx Fo.h rfl rfl rfl (by first|omega|(simp;done)|(simp;omega))) ?_
    refine jC 1 rfl ?_
    replace hA0:=(hA0.mono e1).mono e2
    refine WL.qg rfl rfl rfl rfl (r_load Fb.h rfl (Ext.refl _) (hA0.get (j:=0) rfl)) ?_
    refine WL.qg rfl rfl rfl rfl (r_cmp (r_eql rfl rfl) (beqF (qk0)))<|jD 9 rfl<|jA 2 rfl<|la rfl hb1 ?_
    exact js
  ·refine doR Tryz.func33 ?_
   have he:Evo (fun b=>b<w.heap.size∧b≠fb) w w:=Evo.refl w
   refine jA 2 rfl ?_
   have hs1:=he.size
   refine bx rfl ?_
   rintro _ w1 ⟨rfl,hb1,e1⟩
   have nx1:=hb1.lt
   have ns1:=e1.size
   replace he:=he.then e1
   have hs2:=he.size
   have hx2b1:=hb1.lt
   refine al ?_
   rintro _ w2 ⟨rfl,hb2,e2⟩
   have nx2:=hb2.lt
   have ns2:=e2.size
   refine jD 5 rfl ?_
   replace hb1:=hb1.mono e2
   refine ld rfl hb1 rfl<|WL.q rfl (r_cmp (r_eql rfl rfl) (beqT (qk)))<|jC 2 rfl<|LL.lg rfl rfl rfl hb1 rfl<|jC 1 rfl ?_
   refine WL.qg rfl rfl rfl rfl (r_cmp (r_eql rfl rfl) (beqF (by(omega)))) ?_
   refine jD 17 rfl<|jA 2 rfl<|la rfl hb1 ?_
   exact js
 ·refine doR Tryz.func33 ?_
  have he:Evo (fun b=>b<w.heap.size∧b≠fb) w w:=Evo.refl w
  refine jA 2 rfl ?_
  have hs1:=he.size
  refine bx rfl ?_
  rintro _ w1 ⟨rfl,hb1,e1⟩
  have nx1:=hb1.lt
  have ns1:=e1.size
  replace he:=he.then e1
  have hs2:=he.size
  have hx2b1:=hb1.lt
  refine al ?_
  rintro _ w2 ⟨rfl,hb2,e2⟩
  have nx2:=hb2.lt
  have ns2:=e2.size
  refine jD 5 rfl ?_
  replace hb1:=hb1.mono e2
  refine ld rfl hb1 rfl<|WL.q rfl (r_cmp (r_eql rfl rfl) (beqF (qk)))<|jD 22 rfl<|jA 2 rfl<|la rfl hb1 ?_
  exact js
end Go.Proofs.LL
