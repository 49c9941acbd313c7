/- Contracts of functions of impl, spec and laws. Conditions: those that each theorem states. -/
import Derived.Test.YtdgbmbjkbmpcbaaGreatDoorW44
set_option linter.all false
set_option maxRecDepth 20000
namespace Go.Proofs.LL
open Go Go.Proofs Go.RowKit
set_option maxHeartbeats 4000000
attribute [local irreducible] RunOp WL WC WDL WT WX
theorem ofNumber_ok{k n:Int}{w:World}:Does TP 44 [.int .i64 k,.int .u64 n] w fun r w'=>r= .agg #[.int .i64 k,.int .u64 n,str [],.slice none 0 0,.int .i64 0,.slice none 0 0]∧Ext w w':=by
 refine doR Tryz.func44 ?_
 have he:Evo (fun _=>True) w w:=Evo.refl w
 refine jA 2 rfl ?_
 have hs1:=he.size
 refine al ?_
 rintro _ w1 ⟨rfl,hb1,e1⟩
 refine jD 5 rfl<|WL.q rfl (r_bld (cs:=[_,_,_,_,_,_]) Fo.h rfl rfl) ?_
 refine WL.l0 (lsw rfl rfl hb1) ?_
 rintro _ w2 ⟨hb1,e2,hz2⟩
 refine WL.nil<|WC.ret ?_
 replace he:=he.then (e1.then e2)
 exact finC rfl hb1 agg_87 ⟨rfl,he⟩
theorem pv_vl{A:Nat→Prop}{w:World}(k k':Int)(n n':Nat)(t t':List UInt8):RepVL A w [pv k n t,pv k' n' t'] (vc k n t++vc k' n' t'):=by
 rw[RepVL]
 refine⟨_,_,rfl,repV_pv k n t,?_⟩
 rw[RepVL]
 exact⟨_,[],rfl,repV_pv k' n' t',by rw[RepVL]⟩
theorem textField_ok{k:Int}{s:List UInt8}{w:World}:Does TP 59 [.int .i64 k,str s] w fun r w'=>∃cs,r= .agg cs.toArray∧(∀A,RepVL A w' [tV k s,nullV] cs)∧Ext w w':=by
 rcases Decidable.em (s=[])with h|h
 ·have e:tV k s=nullV:=if_pos h
  rw[e]
  refine doR Tryz.func59 ?_
  have he:Evo (fun _=>True) w w:=Evo.refl w
  refine jA 2 rfl ?_
  have hs1:=he.size
  refine al ?_
  rintro _ w1 ⟨rfl,hb1,e1⟩
  refine jD 5 rfl<|WL.q rfl (r_steqlT rfl rfl (h))<|jD 4 rfl<|WL.q rfl (r_bld (cs:=[_,_,_,_,_,_,_,_,_,_,_,_]) Fo.h rfl rfl) ?_
  refine WL.l0 (lsw rfl rfl hb1) ?_
  rintro _ w2 ⟨hb1,e2,hz2⟩
  refine WL.nil<|WC.ret ?_
  replace he:=he.then (e1.then e2)
  exact finC rfl hb1 agg_89 ⟨_,rfl,fun A=>pv_vl 0 0 0 0 [] [],he⟩
 ·have e:tV k s=pv k 0 s:=if_neg h
  rw[e]
  refine doR Tryz.func59 ?_
  have he:Evo (fun _=>True) w w:=Evo.refl w
  refine jA 2 rfl ?_
  have hs1:=he.size
  refine al ?_
  rintro _ w1 ⟨rfl,hb1,e1⟩
  refine jD 5 rfl<|WL.q rfl (r_steqlF rfl rfl (h))<|jD 3 rfl<|jA 4 rfl<|WL.q rfl (r_bld (cs:=[_,_,_,_,_,_]) Fo.h rfl rfl)<|WL.q rfl (r_bld (cs:=[_,_,_,_,_,_,_,_,_,_,_,_]) Fo.h rfl rfl) ?_
  refine WL.l0 (lsw rfl rfl hb1) ?_
  rintro _ w2 ⟨hb1,e2,hz2⟩
  refine WL.nil<|WC.ret ?_
  replace he:=he.then (e1.then e2)
  exact finC rfl hb1 agg_89 ⟨_,rfl,fun A=>pv_vl k 0 0 0 s [],he⟩
theorem mapField_ok{A:Nat→Prop}{l:List V}{p:Option Addr}{c:Nat}{w:World}(hK:SlX A w l.length (.slice p l.length c) (RepVL A w l)):Does TP 61 [.slice p l.length c] w fun r w'=>∃cs,r= .agg cs.toArray∧RepVL A w' [mV l,nullV] cs∧Ext w w':=by
 rcases Decidable.em (l=[])with h|h
 ·have e:mV l=nullV:=if_pos h
  rw[e]
  refine doR Tryz.func61 ?_
  have he:Evo (fun _=>True) w w:=Evo.refl w
  refine jA 2 rfl ?_
  have hs1:=he.size
  refine al ?_
  rintro _ w1 ⟨rfl,hb1,e1⟩
  refine jD 6 rfl ?_
  refine WL.q rfl (r_cmp (r_eql rfl rfl) (beqT (by(rw[h];rfl)))) ?_
  refine jD 4 rfl<|WL.q rfl (r_bld (cs:=[_,_,_,_,_,_,_,_,_,_,_,_]) Fo.h rfl rfl) ?_
  refine WL.l0 (lsw rfl rfl hb1) ?_
  rintro _ w2 ⟨hb1,e2,hz2⟩
  refine WL.nil<|WC.ret ?_
  replace he:=he.then (e1.then e2)
  exact finC rfl hb1 agg_89 ⟨_,rfl,pv_vl 0 0 0 0 [] [],he⟩
 ·have e:mV l=mapV l:=if_neg h
  have h0:0<l.length:=List.length_pos_iff.2 h
  rw[e]
  refine doR Tryz.func61 ?_
  have he:Evo (fun _=>True) w w:=Evo.refl w
  refine jA 2 rfl ?_
  have hs1:=he.size
  refine al ?_
  rintro _ w1 ⟨rfl,hb1,e1⟩
  refine jD 6 rfl ?_
  refine WL.q rfl (r_cmp (r_eql rfl rfl) (beqF (by(omega)))) ?_
  refine jD 3 rfl<|jA 3 rfl<|WL.q rfl (r_bld (cs:=[_,_,_,_,_,_]) Fo.h rfl rfl)<|WL.q rfl (r_bld (cs:=[_,_,_,_,_,_,_,_,_,_,_,_]) Fo.h rfl rfl) ?_
  refine WL.l0 (lsw rfl rfl hb1) ?_
  rintro _ w2 ⟨hb1,e2,hz2⟩
  refine WL.nil<|WC.ret ?_
  replace hK:=hK.mono (e1.then e2)
  have hR:RepV A w2 (mapV l) _:=RepV.mkK hK
  replace he:=he.then (e1.then e2)
  exact finC rfl hb1 agg_89 ⟨_,rfl,by rw[RepVL];exact⟨_,_,rfl,hR,by rw[RepVL];exact⟨_,[],rfl,repV_null,by rw[RepVL]⟩⟩,he⟩
def fldL(fs:List (V×V)):List V:=fs.flatMap pairF
structure CmpR (A:Nat→Prop) (w:World) (code:Nat) (fs:List (V×V)) (cells:List Value):Prop where
 ex:∃p c xs,cells=[.int .u64 (code:Int),.slice p fs.length c]∧fs.length≤c∧RepVL A w (fldL fs) xs∧(fs=[]∨∃b o,p=some ⟨b,o,none⟩∧A b∧At w b o xs)
theorem CmpR.mono{A B:Nat→Prop}{w w':World}{code:Nat}{fs:List (V×V)}{cells:List Value}(h:CmpR A w code fs cells)(e:Evo B w w')(hAB:∀b,b<w.heap.size→A b→B b:=by(intro b hb1 hb2;first|exact trivial|exact hb2|exact hb2.2|((try dsimp only[Nb]at hb2⊢);omega))):CmpR A w' code fs cells:=by
 obtain⟨p,c,xs,h1,h2,h3,h4⟩:=h
 exact⟨p,c,xs,h1,h2,h3.mono' e hAB,h4.imp id fun⟨b,o,e1,e2,e3⟩=>⟨b,o,e1,e2,e3.growP e hAB e2⟩⟩
theorem CmpR.low{A B:Nat→Prop}{w:World}{code:Nat}{fs:List (V×V)}{cells:List Value}(h:CmpR A w code fs cells)(hAB:∀b,A b→B b):CmpR B w code fs cells:=by
 obtain⟨p,c,xs,h1,h2,h3,h4⟩:=h
 exact⟨p,c,xs,h1,h2,h3.weaken hAB,h4.imp id fun⟨b,o,e1,e2,e3⟩=>⟨b,o,e1,hAB b e2,e3⟩⟩
theorem fldL_length(fs:List (V×V)):(fldL fs).length=2 * fs.length:=pairs_length fs
theorem CmpR.lowW{A B:Nat→Prop}{w:World}{code:Nat}{fs:List (V×V)}{cells:List Value}(h:CmpR A w code fs cells)(hAB:∀b,b<w.heap.size→A b→B b):CmpR B w code fs cells:=by
 obtain⟨p,c,xs,h1,h2,h3,h4⟩:=h
 refine⟨p,c,xs,h1,h2,h3.weakenW hAB,?_⟩
 rcases h4 with h4|⟨b,o,e1,e2,e3⟩
 ·exact .inl h4
 ·rcases Nat.eq_zero_or_pos fs.length with h0|h0
  ·exact .inl (List.eq_nil_of_length_eq_zero h0)
  ·have hl:=h3.len
   rw[fldL_length]at hl
   have hc:=e3 0 (by omega)
   rw[List.getElem?_eq_getElem (by omega)]at hc
   exact .inr ⟨b,o,e1,hAB b (lt_of_cell hc) e2,e3⟩
theorem RepVL.at12{A:Nat→Prop}{w:World}:∀ {fs:List (V×V)} {xs:List Value} {i:Nat} (hi:i<fs.length),RepVL A w (fldL fs) xs→∃pre c1 c2 post,xs=pre++((c1++c2)++post)∧pre.length=i * 12∧RepV A w fs[i].1 c1∧RepV A w fs[i].2 c2
 |[],_,i,hi,_=>absurd hi (by simp)
 |f::r,xs,0,hi,h=>by
  have h':RepVL A w (f.1::f.2::fldL r) xs:=h
  rw[RepVL]at h'
  obtain⟨c1,c',rfl,h1,h2⟩:=h'
  rw[RepVL]at h2
  obtain⟨c2,c'',rfl,h3,h4⟩:=h2
  exact⟨[],c1,c2,c'',by simp,rfl,h1,h3⟩
 |f::r,xs,i+1,hi,h=>by
  have h':RepVL A w (f.1::f.2::fldL r) xs:=h
  rw[RepVL]at h'
  obtain⟨c1,c',rfl,h1,h2⟩:=h'
  rw[RepVL]at h2
  obtain⟨c2,c'',rfl,h3,h4⟩:=h2
  obtain⟨pre,d1,d2,post,rfl,e2,h5,h6⟩:=RepVL.at12 (i:=i) (by simpa using hi) h4
  refine⟨c1++(c2++pre),d1,d2,post,by simp,?_,h5,h6⟩
  rw[List.length_append,List.length_append,h1.len,h3.len];omega
theorem At.pre{w:World}{b o:Nat}{c d:List Value}(h:At w b o (c++d)):At w b o c:=fun j hj=>by
 rw[h j (by simp;omega),List.getElem?_append_left hj]
theorem At.suf{w:World}{b o:Nat}{c d:List Value}(h:At w b o (c++d)):At w b (o+c.length) d:=fun j hj=>by
 have:=h (c.length+j) (by simp;omega)
 rw[List.getElem?_append_right (by omega)]at this
 rw[Nat.add_assoc,this];congr 1;omega
def wholeV(code:Nat)(fs:List (V×V)):V:= .mk 21 0 [] (fs.map (·.1)) 0 [uV code]
theorem RepVL.pushG{R:Nat→Prop}{wi w5:World}{sv v5:Value}{cs c':List Value}{ys ys':List V}(hV:RepVL (fun b=>R b∧sv.ownBlock≠some b) wi ys cs)(hy:RepVL (fun b=>R b∧sv.ownBlock≠some b) wi ys' c')
  (e5:Evo (fun k=>sv.ownBlock≠some k) wi w5) (hob:v5.ownBlock=sv.ownBlock∨∀b,v5.ownBlock=some b→wi.heap.size≤b):RepVL (fun b=>R b∧v5.ownBlock≠some b) w5 (ys++ys') (cs++c'):=by
 have h1:RepVL (fun b=>(R b∧sv.ownBlock≠some b)∧b<wi.heap.size) wi (ys++ys') (cs++c'):=(hV.append hy).weakenW fun b hb h=>⟨h,hb⟩
 refine(h1.mono' e5 (fun b _ h=>h.1.2)).weaken fun b h=>⟨h.1.1,fun e=>?_⟩
 rcases hob with h3|h3
 ·rw[h3]at e;exact h.1.2 e
 ·have:=h3 b e;omega
theorem l_appV{P:Program}{ρ:Fr}{ty:TypeId}{s x:Operand}{w:World}{R:Nat→Prop}{B t tx n m bs:Nat}{zv v u:Value}{ys ys':List V}{cs news:List Value}(ht:slZ P t=some (87,6,bs,zv))(hs:ov ρ s=some v)(hx:ov ρ x=some u)(hown:Own B 87 6 w v n cs)(hV:RepVL (fun b=>R b∧v.ownBlock≠some b) w ys cs)(hy:RepVL (fun b=>R b∧v.ownBlock≠some b) w ys' news)(hsrc:Src P 6 tx u m news w)(hB:B≤w.heap.size)(h63:n+m≤maxLen)(hbytes:(n+m) * bs≤140737488355328):
  LoudOp P (.call ⟨.builtin .append, #[s,x], #[t,tx]⟩) ty ρ w (fun v' w'=>Own B 87 6 w' v' (n+m) (cs++news)∧RepVL (fun b=>R b∧v'.ownBlock≠some b) w' (ys++ys') (cs++news)∧Evo (fun k=>k<B) w w'):=
 (l_appO ht hs hx hown hsrc hB h63 hbytes).imp fun v' w' ⟨h1,h2,h3⟩=>⟨h1,RepVL.pushG hV hy h2 h3,hown.evo (w0:=w) h2⟩
theorem fldL_get{fs:List (V×V)}{i:Nat}(hi:i<fs.length):(fs.take (i+1)).map (·.1)=(fs.take i).map (·.1)++[fs[i].1]:=by
 rw[← List.take_append_getElem hi,List.map_append];rfl
theorem SlX.at1{A:Nat→Prop}{w:World}{b c:Nat}{x:V}{cs:List Value}(h1:At w b 0 cs)(hb:A b)(hc:1≤c)(hx:RepV A w x cs):SlX A w [x].length (.slice (some ⟨b,0,none⟩) 1 c) (RepVL A w [x]):=
 ⟨_,c,cs,rfl,hc,RepVL.one hx,.inr ⟨b,0,rfl,hb,h1⟩⟩
theorem CmpR.open{A:Nat→Prop}{w:World}{code:Nat}{fs:List (V×V)}{cells:List Value}(h:CmpR A w code fs cells):∃p c,cells=[.int .u64 (code:Int),.slice p fs.length c]:=by
 obtain⟨p,c,xs,h1,_⟩:=h
 exact⟨p,c,h1⟩
theorem CmpR.idx{A:Nat→Prop}{w:World}{code:Nat}{fs:List (V×V)}{p:Option Addr}{c i:Nat}(h:CmpR A w code fs [.int .u64 (code:Int),.slice p fs.length c])(hi:i<fs.length):
  ∃b o a0 a1 a2 a3 a4 a5 b0 b1 b2 b3 b4 b5,p=some ⟨b,o,none⟩∧A b∧At w b (o+i * 12) [a0,a1,a2,a3,a4,a5,b0,b1,b2,b3,b4,b5]∧RepV A w fs[i].1 [a0,a1,a2,a3,a4,a5]∧RepV A w fs[i].2 [b0,b1,b2,b3,b4,b5]∧fs.length≤c:=by
 obtain⟨p',c',xs,h1,h2,h3,h4⟩:=h
 simp only[List.cons.injEq,Value.slice.injEq,true_and,and_true]at h1
 obtain⟨rfl,rfl⟩:=h1
 rcases h4 with h4|⟨b,o,e1,e2,e3⟩
 ·rw[h4]at hi;exact absurd hi (by simp)
 ·obtain⟨pre,c1,c2,post,e,ep,r1,r2⟩:=h3.at12 hi
  obtain⟨a0,a1,a2,a3,a4,a5,rfl⟩:=r1.six
  obtain⟨b0,b1,b2,b3,b4,b5,rfl⟩:=r2.six
  rw[e]at e3
  have q:=e3.mid
  rw[ep]at q
  exact⟨b,o,a0,a1,a2,a3,a4,a5,b0,b1,b2,b3,b4,b5,e1,e2,q,r1,r2,h2⟩
theorem all12{l m:List Value}(h1:l.all (fun v=>v.oneCell')=true)(h2:m.all (fun v=>v.oneCell')=true):(l++m).all (fun v=>v.oneCell')=true:=by
 rw[List.all_append,h1,h2];rfl
theorem Whole_ok{A:Nat→Prop}{code:Nat}{fs:List (V×V)}{cells:List Value}{w:World}(hC:CmpR A w code fs cells)(hl:fs.length≤1000):
  Does TP 30 [.agg cells.toArray] w fun r w'=>∃sv sd cs,r= .agg #[.int .i64 21,.int .u64 0,str [],sv,.int .i64 0,sd]∧Own w.heap.size 87 6 w' sv fs.length cs∧RepVL (fun b=>A b∧b<w.heap.size) w' (fs.map (·.1)) cs∧SlX (fun b=>w.heap.size≤b∧sv.ownBlock≠some b) w' 1 sd (RepVL (fun b=>w.heap.size≤b∧sv.ownBlock≠some b) w' [uV code])∧Ext w w':=by
 replace hC:=(hC.lowW (B:=fun b=>A b∧b<w.heap.size) fun b hb h=>⟨h,hb⟩)
 obtain⟨p,c,rfl⟩:=hC.open
 refine doR Tryz.func30 ?_
 have he:Evo (fun b=>b<w.heap.size) w w:=Evo.refl w
 refine jA 2 rfl ?_
 have hs1:=he.size
 refine bx rfl ?_
 rintro _ w1 ⟨rfl,hb1,e1⟩
 have nx1:=hb1.lt
 have ns1:=e1.size
 replace he:=he.then e1
 have hs2:=he.size
 have hx2b1:=hb1.lt
 refine al ?_
 rintro _ w2 ⟨rfl,hb2,e2⟩
 have nx2:=hb2.lt
 have ns2:=e2.size
 refine jD 4 rfl ?_
 replace hb1:=hb1.mono e2
 refine ld rfl hb1 rfl ?_
 refine cl rfl (ofNumber_ok) ?_
 rintro v3 w3 ⟨rfl,e3⟩
 have ns3:=e3.size
 replace he:=(he.then e2).then e3
 have hs4:=he.size
 replace hb1:=hb1.mono e3
 have hx4b1:=hb1.lt
 replace hb2:=hb2.mono e3
 have hx4b2:=hb2.lt
 refine WL.l rfl (ll [_]) ?_
 rintro _ w4 ⟨rfl,hb4,e4⟩
 have ns4:=e4.size
 refine WL.q rfl (r_bld (cs:=[_,_,_,_,_,_]) Fo.h rfl rfl) ?_
 replace he:=he.then e4
 have hs5:=he.size
 replace hb1:=hb1.mono e4
 have hx5b1:=hb1.lt
 replace hb2:=hb2.mono e4
 have hx5b2:=hb2.lt
 have hx5b4:=hb4.lt
 refine al ?_
 rintro _ w5 ⟨rfl,hb5,e5⟩
 have nx5:=hb5.lt
 have ns5:=e5.size
 refine WL.l0 (lsw rfl rfl hb5) ?_
 rintro _ w6 ⟨hb5,e6,hz6⟩
 have ns6:=e6.size
 refine jD 5 rfl ?_
 replace hb1:=hb1.mono (e5.then e6)
 refine ld rfl hb1 rfl<|jD 4 rfl ?_
 obtain⟨N1,eN1⟩:∃M,M=w6.heap.size:=⟨_,rfl⟩
 replace hC:=((((hC.mono e1).mono e2).mono e3).mono e4).mono (e5.then e6)
 replace hb2:=hb2.mono (e5.then e6)
 replace hb4:=hb4.mono (e5.then e6)
 replace he:=he.then (e5.then e6)
 refine WC.loop2 (ι:=Nat) [(2,_),(3,_),(12,_),(13,_)] (fun i=>[(14,.int .i64 (i:Int))]) (fun i wi=>(∃sv cs,Blk wi w4.heap.size [.int .i64 21,.int .u64 0,str [],sv,.int .i64 0,.slice (some ⟨w3.heap.size,0,none⟩) 1 1]∧Own N1 87 6 wi sv i cs∧RepVL (fun b=>(A b∧b<w.heap.size)∧sv.ownBlock≠some b) wi ((fs.take i).map (·.1)) cs)∧i≤fs.length∧Evo (fun b=>b<N1∧b≠w4.heap.size) w6 wi) (fun i=>fs.length-i) 0 sb sb (⟨⟨_,[],hb5,Own.nil _ _ _ _,by rw[List.take_zero,List.map_nil,RepVL]⟩,Nat.zero_le _,Evo.refl _⟩) ?_
 intro i wi1 hh;obtain⟨⟨sv,cs,hb5,hO,hV⟩,ni,hE⟩:=hh
 have nwi:=hE.size
 rcases Nat.lt_or_ge i fs.length with qi|qi
 replace hC:=hC.mono hE
 ·obtain⟨b,o,a0,a1,a2,a3,a4,a5,b0,b1,b2,b3,b4,b5,rfl,qA,hA,hR,qR2,qc⟩:=hC.idx qi
  have qbel:=hO.below
  have q1:=hR.one
  have q12:[a0,a1,a2,a3,a4,a5,b0,b1,b2,b3,b4,b5].all (fun v=>v.oneCell')=true:=all12 q1 qR2.one
  replace hR:=hR.weaken (B:=fun b=>(A b∧b<w.heap.size)∧sv.ownBlock≠some b) fun b h=>⟨h,qbel.2 b (by omega)⟩
  refine jA 2 rfl<|lT rfl rfl<|jD 8 rfl<|ix rfl rfl rfl<|WL.q rfl (r_loadAgg Fo.h rfl (Ext.refl _) hA (hn:=rfl)) ?_
  replace he:=he.then hE
  have hs7:=he.size
  replace hb1:=hb1.mono hE
  have hx7b1:=hb1.lt
  replace hb2:=hb2.mono hE
  have hx7b2:=hb2.lt
  replace hb4:=hb4.mono hE
  have hx7b4:=hb4.lt
  have hx7b5:=hb5.lt
  refine al ?_
  rintro _ w7 ⟨rfl,hb7,e7⟩
  have nx7:=hb7.lt
  have ns7:=e7.size
  refine WL.l0 (lsw rfl rfl hb7) ?_
  rintro _ w8 ⟨hb7,e8,hz8⟩
  have ns8:=e8.size
  refine jD 3 rfl ?_
  replace hb5:=hb5.mono (e7.then e8)
  refine ld rfl hb5 rfl<|jC 1 rfl<|WL.q rfl (r_loadAgg Fo.h rfl (Ext.refl _) (At.pre (c:=[_,_,_,_,_,_]) hb7.at) (hn:=rfl)) ?_
  replace he:=he.then (e7.then e8)
  have hs9:=he.size
  replace hb1:=hb1.mono (e7.then e8)
  have hx9b1:=hb1.lt
  replace hb2:=hb2.mono (e7.then e8)
  have hx9b2:=hb2.lt
  replace hb4:=hb4.mono (e7.then e8)
  have hx9b4:=hb4.lt
  have hx9b5:=hb5.lt
  have hx9b7:=hb7.lt
  refine WL.l rfl (ll [_]) ?_
  rintro _ w9 ⟨rfl,hb9,e9⟩
  have ns9:=e9.size
  replace hO:=(hO.mono (e7.then e8)).mono e9
  replace hV:=(hV.mono (e7.then e8)).mono e9
  replace hR:=(hR.mono (e7.then e8)).mono e9
  refine WL.l rfl (l_appV Fo.h rfl rfl hO hV (RepVL.one hR) (Src.at Fb.h hb9.at rfl q1) (by omega) (by simp only[maxLen];omega) (by omega)) ?_
  rintro v10 w10 ⟨hO,hV,e10⟩
  obtain⟨q10,c10,hq10,_,_⟩:=hO.form
  subst hq10
  have ns10:=e10.size
  refine jC 1 rfl ?_
  replace hb5:=(hb5.mono e9).mono e10
  refine WL.l0 (lst rfl rfl hb5) ?_
  rintro _ w11 ⟨hb5,e11,hz11⟩
  have ns11:=e11.size
  refine jD 2 rfl<|ai rfl rfl rfl<|jC 2 rfl ?_
  replace hV:=hV.mono e11
  rw[← fldL_get qi]at hV
  replace hO:=hO.mono e11
  exact⟨(i+1),sb,sb,⟨⟨_,_,hb5,hO,hV⟩,qi,(((((hE.then (e7.then e8)).then e9).then e10).then e11))⟩,(by show fs.length-(i+1)<fs.length-i;omega)⟩
 ·have hil:i=fs.length:=by omega
  obtain⟨q0,c0,hq0,_,_⟩:=hO.form
  subst hq0
  have qbel:=hO.below
  refine jA 2 rfl<|lF rfl rfl<|jD 3 rfl<|WC.exit<|jA 2 rfl<|la rfl hb5 ?_
  replace hb2:=hb2.mono hE
  refine WL.l0 (lsw rfl rfl hb2) ?_
  rintro _ w7 ⟨hb2,e7,hz7⟩
  have ns7:=e7.size
  refine WL.nil<|WC.ret ?_
  replace hV:=hV.mono e7
  rw[hil,List.take_length]at hV
  subst hil
  replace hb4:=(hb4.mono hE).mono e7
  replace hO:=hO.mono e7
  replace he:=(he.then hE).then e7
  exact finC rfl hb2 agg_87 ⟨_,_,cs,rfl,hO.low (by omega),hV.weaken fun b h=>h.1,SlX.at1 hb4.at ⟨by omega,qbel.2 _ (by omega)⟩ (Nat.le_refl _) (repV_pv 5 code [] (A:=_)),he.weaken fun k hk _=>hk⟩
theorem RepVL.two{A:Nat→Prop}{w:World}{x y:V}{cs:List Value}(h:RepVL A w [x,y] cs):∃a0 a1 a2 a3 a4 a5 b0 b1 b2 b3 b4 b5,cs=[a0,a1,a2,a3,a4,a5,b0,b1,b2,b3,b4,b5]∧RepV A w x [a0,a1,a2,a3,a4,a5]∧RepV A w y [b0,b1,b2,b3,b4,b5]:=by
 rw[RepVL]at h
 obtain⟨c1,c',rfl,h1,h2⟩:=h
 rw[RepVL]at h2
 obtain⟨c2,c'',rfl,h3,h4⟩:=h2
 rw[RepVL]at h4
 subst h4
 obtain⟨a0,a1,a2,a3,a4,a5,rfl⟩:=h1.six
 obtain⟨b0,b1,b2,b3,b4,b5,rfl⟩:=h3.six
 exact⟨a0,a1,a2,a3,a4,a5,b0,b1,b2,b3,b4,b5,rfl,h1,h3⟩
theorem RepVL.mk2{A:Nat→Prop}{w:World}{x y:V}{c c':List Value}(h:RepV A w x c)(h':RepV A w y c'):RepVL A w [x,y] (c++c'):=(RepVL.one h).append (RepVL.one h')
theorem Whole_rep{A:Nat→Prop}{code:Nat}{fs:List (V×V)}{cells:List Value}{w:World}(hC:CmpR A w code fs cells)(hl:fs.length≤1000):
  Does TP 30 [.agg cells.toArray] w fun r w'=>∃a b c d e f,r= .agg #[a,b,c,d,e,f]∧RepV (fun b=>A b∧b<w.heap.size∨w.heap.size≤b) w' (wholeV code fs) [a,b,c,d,e,f]∧Ext w w':=by
 refine(Whole_ok hC hl).imp fun r w' ⟨sv,sd,cs,h1,h2,h3,h4,h5⟩=>?_
 refine⟨_,_,_,_,_,_,h1,?_,h5⟩
 rw[wholeV,RepV]
 exact⟨_,_,rfl,SlX.own h2 (by simp) (h3.weaken fun b h=> .inl h) fun b hb _=> .inr hb,h4.low (n:=1) (l:=[uV code]) fun b h=> .inr h.1⟩
theorem CmpR.lit{A:Nat→Prop}{w:World}{code n b:Nat}{fs:List (V×V)}{xs:List Value}(hn:fs.length=n)(hB:Blk w b xs)(hb:A b)(hX:RepVL A w (fldL fs) xs):CmpR A w code fs [.int .u64 (code:Int),.slice (some ⟨b,0,none⟩) n n]:=by
 subst hn
 exact⟨_,_,xs,rfl,Nat.le_refl _,hX,.inr ⟨b,0,rfl,hb,hB.at⟩⟩
def faultF(c d:List UInt8)(i:List V):List (V×V):=[(pv 20 0 c,nullV),(tV 19 d,nullV),(mV i,nullV)]
theorem FaultOf_ok{A:Nat→Prop}{c d:List UInt8}{i:List V}{p:Option Addr}{cp:Nat}{w:World}(hK:SlX A w i.length (.slice p i.length cp) (RepVL A w i)):
  Does TP 80 [.agg #[str c,str d,.slice p i.length cp]] w fun r w'=>∃a b,r= .agg #[a,b]∧CmpR (fun b=>A b∧b<w.heap.size∨w.heap.size≤b) w' 29 (faultF c d i) [a,b]∧Ext w w':=by
 replace hK:=hK.weakW (B:=fun b=>A b∧b<w.heap.size) (fun b hb h=>⟨h,hb⟩)
 refine doR Tryz.func80 ?_
 have he:Evo (fun b=>b<w.heap.size) w w:=Evo.refl w
 refine jA 2 rfl ?_
 have hs1:=he.size
 refine bx rfl ?_
 rintro _ w1 ⟨rfl,hb1,e1⟩
 have nx1:=hb1.lt
 have ns1:=e1.size
 replace he:=he.then e1
 have hs2:=he.size
 have hx2b1:=hb1.lt
 refine al ?_
 rintro _ w2 ⟨rfl,hb2,e2⟩
 have nx2:=hb2.lt
 have ns2:=e2.size
 refine WL.nil ?_
 replace hK:=(hK.mono e1).mono e2
 replace hb1:=hb1.mono e2
 refine WC.seq<|WC.regionD (tt [0,1,2,3,4,5,7,8]++ff [6,9,10]++tt [11]++ff [12]) (Evo (fun b=>b≠w1.heap.size) _) mixed (by kernel_rfl) (Evo.drew _) ?_
 have nd1w2:w2.drew.heap.size=w2.heap.size:=rfl
 refine jE 1 rfl<|dl rfl hb1 rfl ?_
 refine WD.q rfl (fun _ hS=>r_bld (cs:=[_,_,_,_,_,_]) Fo.h rfl rfl) ?_
 refine WD.q rfl (fun _ hS=>r_bld (cs:=[_,_,_,_,_,_,_,_,_,_,_,_]) Fo.h rfl rfl) ?_
 refine jE 1 rfl<|dl rfl hb1 rfl<|jE 1 rfl<|dl rfl hb1 rfl ?_
 refine cd rfl (textField_ok) ?_
 rintro v3 w3 ⟨cs,rfl,qT0,e3⟩
 have qT:=(qT0 (fun b=>b<0)).two
 obtain⟨x0,x1,x2,x3,x4,x5,y0,y1,y2,y3,y4,y5,rfl,hZ1,hZ2⟩:=qT
 have q1:=all12 hZ1.one hZ2.one
 have ns3:=e3.size
 refine⟨((Evo.drew _).then e3),?_⟩
 refine cd rfl (mapField_ok ((hK.mono (Ext.drew _)).mono e3)) ?_
 rintro v4 w4 ⟨cs2,rfl,qM0,e4⟩
 have qM:=qM0.two
 obtain⟨u0,u1,u2,u3,u4,u5,z0,z1,z2,z3,z4,z5,rfl,hZ3,hZ4⟩:=qM
 have q2:=all12 hZ3.one hZ4.one
 have ns4:=e4.size
 refine⟨(((Evo.drew _).then e3).then e4),?_⟩
 replace he:=(((he.then e2).then (Ext.drew _)).then e3).then e4
 have hs5:=he.size
 replace hb1:=((hb1.mono (Ext.drew _)).mono e3).mono e4
 have hx5b1:=hb1.lt
 replace hb2:=((hb2.mono (Ext.drew _)).mono e3).mono e4
 have hx5b2:=hb2.lt
 refine WD.l rfl rfl (ll [_,_,_]) ?_
 rintro _ w5 ⟨rfl,hb5,e5⟩
 have ns5:=e5.size
 refine⟨((((Evo.drew _).then e3).then e4).then e5),?_⟩
 refine WD.q rfl (fun _ hS=>r_bld (cs:=[_,_]) Fo.h rfl rfl) ?_
 replace hb2:=hb2.mono e5
 refine WD.l0 rfl (lsw rfl rfl hb2) ?_
 rintro _ w6 ⟨hb2,e6,hz6⟩
 have ns6:=e6.size
 refine⟨(((((Evo.drew _).then e3).then e4).then e5).then e6),?_⟩
 refine WD.nil<|WC.ret ?_
 replace hZ1:=((hZ1.mono e4).mono e5).mono e6
 replace hZ2:=((hZ2.mono e4).mono e5).mono e6
 replace hZ3:=(hZ3.mono e5).mono e6
 replace hZ4:=(hZ4.mono e5).mono e6
 have hR:RepVL (fun b=>A b∧b<w.heap.size∨w.heap.size≤b) w6 (fldL (faultF c d i)) _:=RepVL.append (RepVL.mk2 (repV_pv 20 0 c) repV_null) (RepVL.append (RepVL.mk2 (hZ1.weaken fun b h=>absurd h (Nat.not_lt_zero b)) (hZ2.weaken fun b h=>absurd h (Nat.not_lt_zero b))) (RepVL.mk2 (hZ3.weaken fun b h=> .inl h) (hZ4.weaken fun b h=> .inl h)))
 replace hb5:=hb5.mono e6
 replace he:=(he.then e5).then e6
 exact finC rfl hb2 agg_34 ⟨_,_,rfl,CmpR.lit rfl hb5 (by omega) hR,he.weaken fun k hk _=>hk⟩
structure FltR (A:Nat→Prop) (w:World) (l:List Flt) (v:Value):Prop where
 ex:∃p c,v= .slice p l.length c∧l.length≤c∧(l=[]∨∃cc d i b o pi ci,l=[(cc,d,i)]∧p=some ⟨b,o,none⟩∧A b∧b<w.heap.size∧At w b o [str cc,str d,.slice pi i.length ci]∧SlX A w i.length (.slice pi i.length ci) (RepVL A w i))
theorem FltR.mono{A B:Nat→Prop}{w w':World}{l:List Flt}{v:Value}(h:FltR A w l v)(e:Evo B w w')(hAB:∀b,b<w.heap.size→A b→B b:=by(intro b hb1 hb2;first|exact trivial|exact hb2|exact hb2.2|((try dsimp only[Nb]at hb2⊢);omega))):FltR A w' l v:=by
 obtain⟨p,c,h1,h2,h3⟩:=h
 refine⟨p,c,h1,h2,h3.imp id fun⟨cc,d,i,b,o,pi,ci,e1,e2,e3,e4,e5,e6⟩=>⟨cc,d,i,b,o,pi,ci,e1,e2,e3,Nat.lt_of_lt_of_le e4 e.size,e5.growP e hAB e3,e6.mono e hAB⟩⟩
theorem FltR.lowW{A B:Nat→Prop}{w:World}{l:List Flt}{v:Value}(h:FltR A w l v)(hAB:∀b,b<w.heap.size→A b→B b):FltR B w l v:=by
 obtain⟨p,c,h1,h2,h3⟩:=h
 refine⟨p,c,h1,h2,h3.imp id fun⟨cc,d,i,b,o,pi,ci,e1,e2,e3,e4,e5,e6⟩=>⟨cc,d,i,b,o,pi,ci,e1,e2,hAB b e4 e3,e4,e5,e6.weakW hAB⟩⟩
theorem CmpR.one{A:Nat→Prop}{w:World}{code:Nat}{fs:List (V×V)}{cells:List Value}(h:CmpR A w code fs cells):cells.all (fun v=>v.oneCell')=true:=by
 obtain⟨p,c,rfl⟩:=h.open
 rfl
theorem lowB{A:Nat→Prop}{N0 N1 N2 b:Nat}(h:((A b∧b<N0)∧b<N1∨N1≤b)∧b<N2∨N2≤b)(h1:N0≤N1)(h2:N0≤N2):A b∧b<N0∨N0≤b:=by
 rcases h with⟨⟨h,_⟩|h,_⟩|h
 ·exact .inl h
 ·exact .inr (by omega)
 ·exact .inr (by omega)
theorem lowA{A:Nat→Prop}{N0 N1 b:Nat}(h:(A b∧b<N0)∧b<N1∨N1≤b)(h1:N0≤N1):A b∧b<N0∨N0≤b:=by
 rcases h with⟨h,_⟩|h
 ·exact .inl h
 ·exact .inr (by omega)
theorem inner_ok{A:Nat→Prop}{code:Nat}{fs:List (V×V)}{a0 a1:Value}{b:Nat}{w:World}(hb:At w b 0 [a0,a1])(hC:CmpR A w code fs [a0,a1])(hl:fs.length≤1000):
  Does TP 75 [.slice (some ⟨b,0,none⟩) 1 1] w fun r w'=>∃cs,r= .agg cs.toArray∧RepVL (fun b=>A b∧b<w.heap.size∨w.heap.size≤b) w' [wholeV code fs,nullV] cs∧Ext w w':=by
 replace hC:=(hC.lowW (B:=fun b=>A b∧b<w.heap.size) fun b hb h=>⟨h,hb⟩)
 refine doR Tryz.func75 ?_
 have he:Evo (fun b=>b<w.heap.size) w w:=Evo.refl w
 refine jA 2 rfl ?_
 have hs1:=he.size
 refine al ?_
 rintro _ w1 ⟨rfl,hb1,e1⟩
 have nx1:=hb1.lt
 have ns1:=e1.size
 refine jD 6 rfl ?_
 refine WL.q rfl (r_cmp (r_eql rfl rfl) (beqF (by(decide)))) ?_
 refine jD 3 rfl<|jA 3 rfl<|ix rfl rfl rfl ?_
 replace hb:=hb.mono e1
 refine WL.q rfl (r_loadAgg Fo.h rfl (Ext.refl _) hb (hn:=rfl)) ?_
 replace hC:=hC.mono e1
 refine cl rfl (Whole_rep hC hl) ?_
 rintro v2 w2 ⟨x0,x1,x2,x3,x4,x5,rfl,hR,e2⟩
 have q1:=hR.one
 have q2:=all12 q1 (repV_null (A:=fun _=>True) (w:=w)).one
 have ns2:=e2.size
 refine WL.q rfl (r_bld (cs:=[_,_,_,_,_,_,_,_,_,_,_,_]) Fo.h rfl rfl) ?_
 replace hb1:=hb1.mono e2
 refine WL.l0 (lsw rfl rfl hb1) ?_
 rintro _ w3 ⟨hb1,e3,hz3⟩
 have ns3:=e3.size
 refine WL.nil<|WC.ret ?_
 replace hR:=hR.mono e3
 replace he:=((he.then e1).then e2).then e3
 exact finC rfl hb1 agg_89 ⟨_,rfl,RepVL.mk2 (hR.weaken fun b h=>lowA h (by omega)) repV_null,he.weaken fun k hk _=>hk⟩
theorem sfaults_ok{A:Nat→Prop}{l:List Flt}{v:Value}{w:World}(hF:FltR A w l v):
  Does TP 53 [v] w fun r w'=>∃cs,r= .agg cs.toArray∧RepVL (fun b=>A b∧b<w.heap.size∨w.heap.size≤b) w' [faultsV l,nullV] cs∧Ext w w':=by
 replace hF:=(hF.lowW (B:=fun b=>A b∧b<w.heap.size) fun b hb h=>⟨h,hb⟩)
 obtain⟨p,c,rfl,qc,hl|⟨cc,d,i,b,o,pi,ci,rfl,rfl,qA,_,hA,hK⟩⟩:=hF.ex
 ·subst hl
  refine doR Tryz.func53 ?_
  have he:Evo (fun b=>b<w.heap.size) w w:=Evo.refl w
  refine jA 2 rfl ?_
  have hs1:=he.size
  refine al ?_
  rintro _ w1 ⟨rfl,hb1,e1⟩
  have nx1:=hb1.lt
  have ns1:=e1.size
  refine jD 6 rfl ?_
  refine WL.q rfl (r_cmp (r_eql rfl rfl) (beqT (by(rfl)))) ?_
  refine jD 4 rfl<|WL.q rfl (r_bld (cs:=[_,_,_,_,_,_,_,_,_,_,_,_]) Fo.h rfl rfl) ?_
  refine WL.l0 (lsw rfl rfl hb1) ?_
  rintro _ w2 ⟨hb1,e2,hz2⟩
  have ns2:=e2.size
  refine WL.nil<|WC.ret ?_
  replace he:=he.then (e1.then e2)
  exact finC rfl hb1 agg_89 ⟨_,rfl,RepVL.mk2 repV_null repV_null,he.weaken fun k hk _=>hk⟩
 ·refine doR Tryz.func53 ?_
  have he:Evo (fun b=>b<w.heap.size) w w:=Evo.refl w
  refine jA 2 rfl ?_
  have hs1:=he.size
  refine al ?_
  rintro _ w1 ⟨rfl,hb1,e1⟩
  have nx1:=hb1.lt
  have ns1:=e1.size
  refine jD 6 rfl ?_
  refine WL.q rfl (r_cmp (r_eql rfl rfl) (beqF (by(simp)))) ?_
  refine jD 3 rfl<|jA 3 rfl<|ix rfl rfl rfl ?_
  replace hA:=hA.mono e1
  refine WL.q rfl (r_loadAgg Fo.h rfl (Ext.refl _) hA (hn:=rfl)) ?_
  replace hK:=hK.mono e1
  refine cl rfl (FaultOf_ok hK) ?_
  rintro v2 w2 ⟨a,b2,rfl,hC,e2⟩
  have q1:=hC.one
  have ns2:=e2.size
  replace he:=(he.then e1).then e2
  have hs3:=he.size
  replace hb1:=hb1.mono e2
  have hx3b1:=hb1.lt
  refine WL.l rfl (ll [_]) ?_
  rintro _ w3 ⟨rfl,hb3,e3⟩
  have ns3:=e3.size
  replace hC:=hC.mono e3
  refine cl rfl (inner_ok hb3.at hC (by simp[faultF])) ?_
  rintro v4 w4 ⟨cs,rfl,qR,e4⟩
  have qR2:=qR.two
  obtain⟨x0,x1,x2,x3,x4,x5,y0,y1,y2,y3,y4,y5,rfl,hZ1,hZ2⟩:=qR2
  have q2:=all12 hZ1.one hZ2.one
  have ns4:=e4.size
  replace hb1:=(hb1.mono e3).mono e4
  refine WL.l0 (lsw rfl rfl hb1) ?_
  rintro _ w5 ⟨hb1,e5,hz5⟩
  have ns5:=e5.size
  refine WL.nil<|WC.ret ?_
  replace hZ1:=hZ1.mono e5
  replace hZ2:=hZ2.mono e5
  replace he:=((he.then e3).then e4).then e5
  exact finC rfl hb1 agg_89 ⟨_,rfl,RepVL.mk2 (hZ1.weaken fun b h=>lowB h (by omega) (by omega)) (hZ2.weaken fun b h=>lowB h (by omega) (by omega)),he.weaken fun k hk _=>hk⟩
theorem EndOf_ok{A:Nat→Prop}{l:List Flt}{v:Value}{w:World}(hF:FltR A w l v):
  Does TP 19 [v] w fun r w'=>∃a b,r= .agg #[a,b]∧CmpR (fun b=>A b∧b<w.heap.size∨w.heap.size≤b) w' 23 [(faultsV l,nullV)] [a,b]∧Ext w w':=by
 replace hF:=(hF.lowW (B:=fun b=>A b∧b<w.heap.size) fun b hb h=>⟨h,hb⟩)
 obtain⟨p,c,rfl,_⟩:=hF.ex
 refine doR Tryz.func19 ?_
 have he:Evo (fun b=>b<w.heap.size) w w:=Evo.refl w
 refine jA 2 rfl ?_
 have hs1:=he.size
 refine al ?_
 rintro _ w1 ⟨rfl,hb1,e1⟩
 have nx1:=hb1.lt
 have ns1:=e1.size
 refine jD 4 rfl ?_
 replace hF:=hF.mono e1
 refine cl rfl (sfaults_ok hF) ?_
 rintro v2 w2 ⟨cs,rfl,qR,e2⟩
 have qR2:=qR.two
 obtain⟨x0,x1,x2,x3,x4,x5,y0,y1,y2,y3,y4,y5,rfl,hZ1,hZ2⟩:=qR2
 have q2:=all12 hZ1.one hZ2.one
 have ns2:=e2.size
 replace he:=(he.then e1).then e2
 have hs3:=he.size
 replace hb1:=hb1.mono e2
 have hx3b1:=hb1.lt
 refine WL.l rfl (ll [_]) ?_
 rintro _ w3 ⟨rfl,hb3,e3⟩
 have ns3:=e3.size
 refine WL.q rfl (r_bld (cs:=[_,_]) Fo.h rfl rfl) ?_
 replace hb1:=hb1.mono e3
 refine WL.l0 (lsw rfl rfl hb1) ?_
 rintro _ w4 ⟨hb1,e4,hz4⟩
 have ns4:=e4.size
 refine WL.nil<|WC.ret ?_
 replace hZ1:=(hZ1.mono e3).mono e4
 replace hZ2:=(hZ2.mono e3).mono e4
 have hR:RepVL (fun b=>A b∧b<w.heap.size∨w.heap.size≤b) w4 (fldL [(faultsV l,nullV)]) _:=RepVL.mk2 (hZ1.weaken fun b h=>lowA h (by omega)) (hZ2.weaken fun b h=>lowA h (by omega))
 replace hb3:=hb3.mono e4
 replace he:=(he.then e3).then e4
 exact finC rfl hb1 agg_34 ⟨_,_,rfl,CmpR.lit rfl hb3 (by omega) hR,he.weaken fun k hk _=>hk⟩
end Go.Proofs.LL
