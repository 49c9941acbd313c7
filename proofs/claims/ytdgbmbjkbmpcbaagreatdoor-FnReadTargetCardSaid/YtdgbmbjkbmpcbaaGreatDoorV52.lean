/- Own laws of frames, operations and loops, and contracts of functions of the program. Conditions: those that each theorem states. -/
import Derived.Test.YtdgbmbjkbmpcbaaGreatDoorV51
set_option linter.all false
set_option maxRecDepth 20000
namespace Go.Proofs.LL
open Go Go.Proofs Go.RowKit
set_option maxHeartbeats 4000000
attribute [local irreducible] RunOp WL WC WDL WT WX
theorem fy{A:Nat→Prop}{data:Value}{ks:List V}{addr:List UInt8}{dur:Nat}{exp:List UInt8}{tmo dyn:Nat}{node:List V}{caps:List (List UInt8)}{cu:UInt8}{du hd body r:List UInt8}{w:World}(hI:IsB A w data (0::((cu::du)++(hd++(body++r)))))(hbl:(0::((cu::du)++(hd++(body++r)))).length≤1000000000)
  (hK:oa ks addr dur exp tmo dyn node caps) (hP:Pc (uV 41) cu du) (hh:LstH hd ks.length body) (hEn:EncL ks body) (hA:b7 node) (hcl:caps.length≤65536) (hUT:UT w):
  Does TP 7 [data] w fun rr w'=>∃cells rest,rr= .tuple #[.agg cells.toArray,rest,.bool true]∧nV w.heap.size w' addr dur exp tmo dyn node caps cells∧IsB (fun b=>w.heap.size≤b) w' rest r∧Ext w w':=by
 have hUTl:=hUT.lt
 refine does_defer (rs:=[.cell 2 26,.cell 3 28,.cell 4 4]) Tryz.func7 rfl rfl rfl ?_
 have he:Evo (fun _=>True) w w:=Evo.refl w
 refine uA 1 rfl ?_
 have hs1:=he.size
 refine al ?_
 rintro _ w1 ⟨rfl,hb1,e1⟩
 replace he:=he.then e1
 have hs2:=he.size
 have hx2b1:=hb1.lt
 refine al ?_
 rintro _ w2 ⟨rfl,hb2,e2⟩
 replace he:=he.then e2
 have hs3:=he.size
 replace hb1:=hb1.mono e2
 have hx3b1:=hb1.lt
 have hx3b2:=hb2.lt
 refine al ?_
 rintro _ w3 ⟨rfl,hb3,e3⟩
 refine WL.nil ?_
 refine⟨rfl,_,rfl,o4 (Nat.le_of_ble_eq_true rfl),?_⟩
 refine uA 3 rfl ?_
 refine cl rfl (dP (hI.mono ((e1.then e2).then e3) (fun _ _ _=>trivial)) hbl) ?_
 rintro v4 w4 ⟨⟨N,nN,qO⟩,e4⟩
 have nq4:=e4.size
 have ny3:=hb3.lt
 obtain⟨pb,cb,hrv,hcb,hfb⟩:=qO.form
 obtain⟨db,rfl,hdb,hdl,hat⟩:=hfb (by simp)
 subst hrv
 refine cl rfl (New_ok (A:=A) hat.bytes hcb (by omega) hdl) ?_
 rintro v5 w5 ⟨rfl,qR0,nrl,e5⟩
 refine uD 4 rfl ?_
 replace he:=((he.then e3).then e4).then e5
 have hs6:=he.size
 replace hb1:=((hb1.mono e3).mono e4).mono e5
 have hx6b1:=hb1.lt
 replace hb2:=((hb2.mono e3).mono e4).mono e5
 have hx6b2:=hb2.lt
 replace hb3:=(hb3.mono e4).mono e5
 have hx6b3:=hb3.lt
 refine al ?_
 rintro _ w6 ⟨rfl,hb6,e6⟩
 refine uD 7 rfl ?_
 refine cl rfl (oO hK hP hh hEn (by omega) hb6 (qR0.mono e6)) ?_
 rintro v7 w7 ⟨rfl,⟨vm,vc,hb6,qM,qS⟩,qR,e7⟩
 refine WL.q rfl (r_ifneNil Fb.h rfl)<|uD 3 rfl<|uA 3 rfl ?_
 replace hUT:=((((((hUT.mono e1).mono e2).mono e3).mono e4).mono e5).mono e6).mono e7
 refine cl rfl (gR hA hcl hUT hb6 qM qS) ?_
 rintro v8 w8 ⟨cells,rfl,⟨sv,ys,cv,rfl,hV,qB,hO⟩,e8⟩
 have nq7:=e7.size
 have nq6:=e6.size
 have nq8:=e8.size
 have qb1:=((hb1.mono e6).mono e7).mono e8
 have qb3:=((hb3.mono e6).mono e7).mono e8
 obtain⟨p3,c3,hcv,_⟩:=hO.form
 subst hcv
 have hX0:=hV
 obtain⟨p2,c2,_,hsv,_⟩:=hX0
 subst hsv
 refine uC 3 rfl ?_
 replace hb1:=((hb1.mono e6).mono e7).mono e8
 refine WL.l0 (lsw rfl rfl hb1) ?_
 rintro _ w9 ⟨hb1,e9,hz9⟩
 replace hb3:=(((hb3.mono e6).mono e7).mono e8).mono e9
 refine WL.l0 (lst rfl rfl hb3) ?_
 rintro _ w10 ⟨hb3,e10,hz10⟩
 refine uD 4 rfl<|ld rfl hb3 rfl<|uD 4 rfl ?_
 replace hUT:=((hUT.mono e8).mono e9).mono e10
 replace hb1:=hb1.mono e10
 replace hb2:=((((hb2.mono e6).mono e7).mono e8).mono e9).mono e10
 replace hb6:=((hb6.mono e8).mono e9).mono e10
 replace hV:=(hV.mono e9).mono e10
 replace hO:=(hO.mono e9).mono e10
 refine WC.seq<|WC.regionDL 4 (tt [0,1]++ff [2,3,4,5,6]) (Ext _) mixed (by kernel_rfl) (Ext.drew _) ?_
 refine WD.q rfl (fun _ hS=>r_loadAgg Fo.h rfl hS hb1.at (hn:=by first|rfl|assumption)) ?_
 refine uE 1 rfl ?_
 refine cd rfl (BytesR_ok ((((qR.mono e8).keepL e9 qb1 (by rfl) (by omega)).keep e10 (qb3.mono e9) rfl (by omega)).mono (Ext.drew _))) ?_
 rintro v11 w11 ⟨qBy,e11⟩
 refine⟨((Evo.drew _).then e11),?_⟩
 refine cd rfl (dP qBy (by simp only[List.length_cons,List.length_append]at hbl;omega)) ?_
 rintro v12 w12 ⟨⟨N2,nN2,hO2⟩,e12⟩
 have hro:=hO2.one
 have nq9:=e9.size
 have nq10:=e10.size
 have nq11:w10.heap.size≤w11.heap.size:=e11.size
 refine⟨(((Evo.drew _).then e11).then e12),?_⟩
 replace hb1:=((hb1.mono (Ext.drew _)).mono e11).mono e12
 refine WD.l0L rfl rfl (lsw rfl rfl hb1) ?_
 rintro _ w13 ⟨hb1,e13,hz13⟩
 replace hb2:=(((hb2.mono (Ext.drew _)).mono e11).mono e12).mono e13
 refine WT.l0 rfl (lst rfl rfl hb2) ?_
 rintro _ w14 ⟨hb2,e14,hz14⟩
 replace hb3:=((((hb3.mono (Ext.drew _)).mono e11).mono e12).mono e13).mono e14
 refine WT.l0 rfl (lst rfl rfl hb3) ?_
 rintro _ w15 ⟨hb3,e15,hz15⟩
 refine WT.nil<|WC.ret ?_
 replace hb1:=(hb1.mono e14).mono e15
 replace hb2:=hb2.mono e15
 replace hV:=(((((hV.mono (Ext.drew _)).mono e11).mono e12).mono e13).mono e14).mono e15
 replace hO:=(((((hO.mono (Ext.drew _)).mono e11).mono e12).mono e13).mono e14).mono e15
 replace hO2:=((hO2.mono e13).mono e14).mono e15
 replace he:=((((((((((he.then e6).then e7).then e8).then e9).then e10).then (Ext.drew _)).then e11).then e12).then e13).then e14).then e15
 exact finR (vs:=[.agg _,_,.bool true]) ⟨.inl ⟨_,0,[_,_,_,_,_,_,_],rfl,mi,hb1.at,rfl⟩,.inr ⟨_,rfl,one_28,hb2.get rfl⟩,.inr ⟨_,rfl,one_4,hb3.get rfl⟩,trivial⟩ ⟨_,_,rfl,⟨_,ys,_,rfl,hV.low (fun b h=>by omega),qB,hO.low (by omega)⟩,hO2.toB (fun b h _=>by show w.heap.size≤b;omega),he⟩
theorem fS{a b:V}(h:same a b=true):a.kind=b.kind∧a.num=b.num∧a.text=b.text:=by
 obtain⟨k,n,t,ks,o,d⟩:=a
 obtain⟨k',n',t',ks',o',d'⟩:=b
 simp only[same,Bool.and_eq_true,beq_iff_eq]at h
 exact⟨h.1.1.1.1.1.1,h.1.1.1.1.1.2,h.1.1.1.1.2⟩
theorem eT{k:Int}{n m:Nat}{y:V}(hk:k≠23)(hk0:k≠0)(h:bt (pv k n []) (pv k m []) y):iS k y n m:=by
 rcases h with rfl|⟨rfl,h|⟨_,h⟩⟩|⟨h,_⟩
 ·exact .inr ⟨rfl,rfl,rfl⟩
 ·exact absurd (congrArg V.kind h) hk0
 ·exact .inl ⟨bd,(fS h).2.1⟩
 ·exact absurd h hk
end Go.Proofs.LL
namespace Go.Proofs.LL
open Go Go.Proofs Go.RowKit
set_option maxHeartbeats 4000000
attribute [local irreducible] RunOp WL WC WDL WT WX
structure dY (A:Nat→Prop) (w:World) (ts:List (List UInt8)) (v:Value):Prop where
 ex:∃p c,v= .slice p ts.length c∧ts.length≤c∧(ts=[]∨∃b o,p=some ⟨b,o,none⟩∧A b∧b<w.heap.size∧At w b o (ts.map str))
theorem dY.mono{A B:Nat→Prop}{w w':World}{ts:List (List UInt8)}{v:Value}(h:dY A w ts v)(e:Evo B w w')(hAB:∀b,b<w.heap.size→A b→B b:=by(intro b hb1 hb2;first|exact trivial|exact hb2|exact hb2.2|((try dsimp only[Nb]at hb2⊢);omega))):dY A w' ts v:=by
 obtain⟨p,c,h1,h2,h3⟩:=h
 exact⟨p,c,h1,h2,h3.imp id fun⟨b,o,e1,e2,e3,e4⟩=>⟨b,o,e1,e2,Nat.lt_of_lt_of_le e3 e.size,e4.growP e hAB e2⟩⟩
theorem dY.lowW{A B:Nat→Prop}{w:World}{ts:List (List UInt8)}{v:Value}(h:dY A w ts v)(hAB:∀b,b<w.heap.size→A b→B b):dY B w ts v:=by
 obtain⟨p,c,h1,h2,h3⟩:=h
 exact⟨p,c,h1,h2,h3.imp id fun⟨b,o,e1,e2,e3,e4⟩=>⟨b,o,e1,hAB b e3 e2,e3,e4⟩⟩
theorem dY.nil{A:Nat→Prop}{w:World}:dY A w [] (.slice none 0 0):=⟨none,0,rfl,Nat.le_refl _,.inl rfl⟩
theorem dY.idx{A:Nat→Prop}{w:World}{ts:List (List UInt8)}{p:Option Addr}{c i:Nat}(h:dY A w ts (.slice p ts.length c))(hi:i<ts.length):∃b o,p=some ⟨b,o,none⟩∧ts.length≤c∧w.cell? ⟨b,o+i,none⟩=some (str ts[i]):=by
 obtain⟨p',c',h1,h2,h3⟩:=h
 simp only[Value.slice.injEq,true_and]at h1
 obtain⟨rfl,rfl⟩:=h1
 rcases h3 with h3|⟨b,o,e1,e2,e3,e4⟩
 ·rw[h3]at hi;exact absurd hi (by simp)
 ·exact⟨b,o,e1,h2,e4.get (j:=i) (v:=str ts[i]) (by simp[hi])⟩
theorem dY.own{A:Nat→Prop}{w:World}{B:Nat}{ts:List (List UInt8)}{v:Value}(h:Own B 9 1 w v ts.length (ts.map str))(hA:∀b,B≤b→A b):dY A w ts v:=by
 obtain⟨p,c,h1,h2,h3⟩:=h.form
 refine⟨p,c,h1,h2,?_⟩
 rcases Nat.eq_zero_or_pos ts.length with h0|h0
 ·exact .inl (List.eq_nil_of_length_eq_zero h0)
 ·obtain⟨b,h4,h5,h6,h7⟩:=h3 h0
  exact .inr ⟨b,0,h4,hA b h5,h6,h7⟩
theorem lm{b:Bool}{w:World}:Does TP 74 [.bool b] w fun r w'=>r= .int .u64 (b.toNat:Int)∧Ext w w':=by
 cases b
 ·refine do1 Tryz.func74 ?_
  refine uA 15 rfl<|WC.ret ?_
  exact fin1 rfl ⟨rfl,ch⟩
 ·refine do1 Tryz.func74 ?_
  refine uA 14 rfl<|WC.ret ?_
  exact fin1 rfl ⟨rfl,ch⟩
theorem aW{k:Int}{n:Nat}{w:World}:Does TP 60 [.int .i64 k,.int .u64 (n:Int)] w fun r w'=>r= .agg #[.int .i64 k,.int .u64 (n:Int),str [],.slice none 0 0,.int .i64 0,.slice none 0 0,.int .i64 k,.int .u64 0,str [],.slice none 0 0,.int .i64 0,.slice none 0 0]∧Ext w w':=by
 refine doR Tryz.func60 ?_
 have he:Evo (fun _=>True) w w:=Evo.refl w
 refine uA 2 rfl ?_
 have hs1:=he.size
 refine al ?_
 rintro _ w1 ⟨rfl,hb1,e1⟩
 refine uD 5 rfl ?_
 refine cl rfl (cL) ?_
 rintro v2 w2 ⟨rfl,e2⟩
 refine uC 1 rfl ?_
 refine cl rfl (cL) ?_
 rintro v3 w3 ⟨rfl,e3⟩
 refine WL.q rfl (r_bld (cs:=[_,_,_,_,_,_,_,_,_,_,_,_]) Fo.h rfl rfl) ?_
 replace hb1:=(hb1.mono e2).mono e3
 refine WL.l0 (lsw rfl rfl hb1) ?_
 rintro _ w4 ⟨hb1,e4,hz4⟩
 refine WL.nil<|WC.ret ?_
 replace he:=(((he.then e1).then e2).then e3).then e4
 exact finC rfl hb1 agg_89 ⟨rfl,he⟩
theorem gP{b:Bool}{w:World}:Does TP 46 [.bool b] w fun r w'=>r= .agg #[.int .i64 1,.int .u64 (b.toNat:Int),str [],.slice none 0 0,.int .i64 0,.slice none 0 0,.int .i64 1,.int .u64 0,str [],.slice none 0 0,.int .i64 0,.slice none 0 0]∧Ext w w':=by
 refine doR Tryz.func46 ?_
 have he:Evo (fun _=>True) w w:=Evo.refl w
 refine uA 2 rfl ?_
 have hs1:=he.size
 refine al ?_
 rintro _ w1 ⟨rfl,hb1,e1⟩
 refine uD 4 rfl ?_
 refine cl rfl (lm) ?_
 rintro v2 w2 ⟨rfl,e2⟩
 refine cl rfl (aW) ?_
 rintro v3 w3 ⟨rfl,e3⟩
 replace hb1:=(hb1.mono e2).mono e3
 refine WL.l0 (lsw rfl rfl hb1) ?_
 rintro _ w4 ⟨hb1,e4,hz4⟩
 refine WL.nil<|WC.ret ?_
 replace he:=(((he.then e1).then e2).then e3).then e4
 exact finC rfl hb1 agg_89 ⟨rfl,he⟩
theorem cZ{k:Int}{w:World}:Does TP 59 [.int .i64 k,str []] w fun r w'=>r= .agg (vc 0 0 []++vc 0 0 []).toArray∧Ext w w':=by
 refine doR Tryz.func59 ?_
 have he:Evo (fun _=>True) w w:=Evo.refl w
 refine uA 2 rfl ?_
 have hs1:=he.size
 refine al ?_
 rintro _ w1 ⟨rfl,hb1,e1⟩
 refine uD 5 rfl<|WL.q rfl (r_steqlT rfl rfl (rfl))<|uD 4 rfl<|WL.q rfl (r_bld (cs:=[_,_,_,_,_,_,_,_,_,_,_,_]) Fo.h rfl rfl) ?_
 refine WL.l0 (lsw rfl rfl hb1) ?_
 rintro _ w2 ⟨hb1,e2,hz2⟩
 refine WL.nil<|WC.ret ?_
 replace he:=he.then (e1.then e2)
 exact finC rfl hb1 agg_89 ⟨rfl,he⟩
theorem dp{w:World}:Does TP 61 [.slice none 0 0] w fun r w'=>r= .agg (vc 0 0 []++vc 0 0 []).toArray∧Ext w w':=by
 refine doR Tryz.func61 ?_
 have he:Evo (fun _=>True) w w:=Evo.refl w
 refine uA 2 rfl ?_
 have hs1:=he.size
 refine al ?_
 rintro _ w1 ⟨rfl,hb1,e1⟩
 refine uD 6 rfl ?_
 refine WL.q rfl (r_cmp (r_eql rfl rfl) (beqT (by(rfl)))) ?_
 refine uD 4 rfl<|WL.q rfl (r_bld (cs:=[_,_,_,_,_,_,_,_,_,_,_,_]) Fo.h rfl rfl) ?_
 refine WL.l0 (lsw rfl rfl hb1) ?_
 rintro _ w2 ⟨hb1,e2,hz2⟩
 refine WL.nil<|WC.ret ?_
 replace he:=he.then (e1.then e2)
 exact finC rfl hb1 agg_89 ⟨rfl,he⟩
theorem bK{w:World}:Does TP 29 [.slice none 0 0] w fun r w'=>r= .agg (vc 0 0 []++vc 0 0 []).toArray∧Ext w w':=by
 refine doR Tryz.func29 ?_
 have he:Evo (fun _=>True) w w:=Evo.refl w
 refine uA 2 rfl ?_
 have hs1:=he.size
 refine al ?_
 rintro _ w1 ⟨rfl,hb1,e1⟩
 refine uD 6 rfl ?_
 refine WL.q rfl (r_cmp (r_eql rfl rfl) (beqT (by(rfl)))) ?_
 refine uD 4 rfl<|WL.q rfl (r_bld (cs:=[_,_,_,_,_,_,_,_,_,_,_,_]) Fo.h rfl rfl) ?_
 refine WL.l0 (lsw rfl rfl hb1) ?_
 rintro _ w2 ⟨hb1,e2,hz2⟩
 refine WL.nil<|WC.ret ?_
 replace he:=he.then (e1.then e2)
 exact finC rfl hb1 agg_89 ⟨rfl,he⟩
theorem jm{A:Nat→Prop}{ts:List (List UInt8)}{p:Option Addr}{c:Nat}{w:World}(hS:dY A w ts (.slice p ts.length c))(hl:ts.length≤2147483647):
  Does TP 29 [.slice p ts.length c] w fun r w'=>∃cs,r= .agg cs.toArray∧aa (fun b=>w.heap.size≤b) w' [bf ts,ap] cs∧Ext w w':=by
 replace hS:=hS.lowW (B:=fun b=>b<w.heap.size) fun b hb _=>hb
 rcases Decidable.em (ts=[])with h|h
 ·have e:bf ts=ap:=if_pos h
  rw[e]
  refine doR Tryz.func29 ?_
  have he:Evo (fun _=>True) w w:=Evo.refl w
  refine uA 2 rfl ?_
  have hs1:=he.size
  refine al ?_
  rintro _ w1 ⟨rfl,hb1,e1⟩
  refine uD 6 rfl ?_
  refine WL.q rfl (r_cmp (r_eql rfl rfl) (beqT (by(rw[h];rfl)))) ?_
  refine uD 4 rfl<|WL.q rfl (r_bld (cs:=[_,_,_,_,_,_,_,_,_,_,_,_]) Fo.h rfl rfl) ?_
  refine WL.l0 (lsw rfl rfl hb1) ?_
  rintro _ w2 ⟨hb1,e2,hz2⟩
  refine WL.nil<|WC.ret ?_
  replace he:=he.then (e1.then e2)
  exact finC rfl hb1 agg_89 ⟨_,rfl,aT 0 0 0 0 [] [],he⟩
 ·have e:bf ts= .mk 23 0 [] (ts.map fun s=>pv 20 0 s) 0 []:=if_neg h
  have h0:0<ts.length:=List.length_pos_iff.2 h
  rw[e]
  refine doR Tryz.func29 ?_
  have he:Evo (fun b=>b<w.heap.size) w w:=Evo.refl w
  refine uA 2 rfl ?_
  have hs1:=he.size
  refine al ?_
  rintro _ w1 ⟨rfl,hb1,e1⟩
  have nx1:=hb1.lt
  have ns1:=e1.size
  refine uD 6 rfl ?_
  refine WL.q rfl (r_cmp (r_eql rfl rfl) (beqF (by(omega)))) ?_
  refine uD 3 rfl<|uA 2 rfl<|WL.q rfl (r_bld (cs:=[_,_,_,_,_,_]) Fo.h rfl rfl) ?_
  replace he:=he.then e1
  have hs2:=he.size
  have hx2b1:=hb1.lt
  refine al ?_
  rintro _ w2 ⟨rfl,hb2,e2⟩
  have nx2:=hb2.lt
  have ns2:=e2.size
  refine WL.l0 (lsw rfl rfl hb2) ?_
  rintro _ w3 ⟨hb2,e3,hz3⟩
  have ns3:=e3.size
  refine uD 9 rfl ?_
  obtain⟨N1,eN1⟩:∃M,M=w3.heap.size:=⟨_,rfl⟩
  replace hS:=(hS.mono e1).mono (e2.then e3)
  replace hb1:=hb1.mono (e2.then e3)
  replace he:=he.then (e2.then e3)
  refine WC.loop2 (ι:=Nat) [(2,_),(3,_),(11,_),(12,_)] (fun i=>[(13,.int .i64 (i:Int))]) (fun i wi=>(∃sv,Blk wi w1.heap.size [.int .i64 23,.int .u64 0,str [],sv,.int .i64 0,.slice none 0 0]∧Own N1 87 6 wi sv i ((ts.take i).flatMap (vc 20 0)))∧i≤ts.length∧Evo (fun b=>b<N1∧b≠w1.heap.size) w3 wi) (fun i=>ts.length-i) 0 sb sb (⟨⟨_,hb2,Own.nil _ _ _ _⟩,Nat.zero_le _,Evo.refl _⟩) ?_
  intro i wi1 hh;obtain⟨⟨sv,hb2,hO⟩,ni,hE⟩:=hh
  have nwi:=hE.size
  rcases Nat.lt_or_ge i ts.length with qi|qi
  replace hS:=hS.mono hE
  ·obtain⟨b,o,rfl,qc,qA⟩:=hS.idx qi
   have htk:(ts.take (i+1)).flatMap (vc 20 0)=(ts.take i).flatMap (vc 20 0)++vc 20 0 ts[i]:=by rw[← List.take_append_getElem qi,List.flatMap_append];simp
   refine uA 2 rfl<|lT rfl rfl<|uD 8 rfl ?_
   refine WL.q rfl (r_idx1 Fo.h rfl rfl rfl (by first|omega|(simp;done)|(simp;omega))) ?_
   refine WL.q rfl (r_load Fb.h rfl (Ext.refl _) qA)<|uD 4 rfl<|ld rfl hb2 rfl<|uC 1 rfl<|WL.q rfl (r_bld (cs:=[_,_,_,_,_,_]) Fo.h rfl rfl) ?_
   replace he:=he.then hE
   have hs4:=he.size
   replace hb1:=hb1.mono hE
   have hx4b1:=hb1.lt
   have hx4b2:=hb2.lt
   refine WL.l rfl (ll [_]) ?_
   rintro _ w4 ⟨rfl,hb4,e4⟩
   have ns4:=e4.size
   replace hO:=hO.mono e4
   refine WL.l rfl (l_app Fo.h rfl rfl hO (Src.at Fb.h hb4.at rfl rfl) (by omega) (by simp only[maxLen];omega) (by omega)) ?_
   rintro v5 w5 ⟨hO,e5⟩
   obtain⟨q5,c5,hq5,_,_⟩:=hO.form
   subst hq5
   have ns5:=e5.size
   refine uC 1 rfl ?_
   replace hb2:=(hb2.mono e4).mono e5
   refine WL.l0 (lst rfl rfl hb2) ?_
   rintro _ w6 ⟨hb2,e6,hz6⟩
   have ns6:=e6.size
   refine uD 2 rfl<|ai rfl rfl rfl<|uC 2 rfl ?_
   replace hO:=hO.mono e6
   replace hO:=htk▸(show Own N1 87 6 w6 _ (i+1) ((ts.take i).flatMap (vc 20 0)++vc 20 0 ts[i])from hO)
   exact⟨(i+1),sb,sb,⟨⟨_,hb2,hO⟩,qi,((((hE.then e4).then e5).then e6))⟩,(by show ts.length-(i+1)<ts.length-i;omega)⟩
  ·have hil:i=ts.length:=by omega
   obtain⟨q0,c0,hq0,_,_⟩:=hO.form
   subst hq0
   refine uA 2 rfl<|lF rfl rfl<|uD 3 rfl<|WC.exit<|uA 2 rfl<|la rfl hb2<|WL.q rfl (r_bld (cs:=[_,_,_,_,_,_,_,_,_,_,_,_]) Fo.h rfl rfl) ?_
   replace hb1:=hb1.mono hE
   refine WL.l0 (lsw rfl rfl hb1) ?_
   rintro _ w4 ⟨hb1,e4,hz4⟩
   have ns4:=e4.size
   refine WL.nil<|WC.ret ?_
   replace hO:=hO.mono e4
   rw[hil,List.take_length]at hO
   have hK:aD (fun b=>w.heap.size≤b) w4 (ts.map fun s=>pv 20 0 s).length _ (aa (fun b=>w.heap.size≤b) w4 (ts.map fun s=>pv 20 0 s)):=aD.own hO (by simp) (aa.flat (fun s=>pv 20 0 s) (vc 20 0) (fun s=>ag.plain 20 0 s) ts) (fun b hb _=>by omega)
   subst hil
   replace he:=(he.then hE).then e4
   exact finC rfl hb1 agg_89 ⟨_,rfl,aa.mk2 (ag.mkK hK) cU,he.weaken fun k hk _=>hk⟩
end Go.Proofs.LL
namespace Go.Proofs.LL
open Go Go.Proofs Go.RowKit
set_option maxHeartbeats 4000000
attribute [local irreducible] RunOp WL WC WDL WT WX
def fC(addr:List UInt8)(dur:Nat)(exp:List UInt8)(tmo:Nat)(dyn:Bool)(node:List V):List (V×V):=
 [(tV 19 addr,ap),(pv 4 dur [],pv 4 0 []),(tV 20 exp,pv 20 0 aH),(pv 4 tmo [],pv 4 0 []),(pv 1 dyn.toNat [],pv 1 0 []),(mV node,ap)]
def iD:List (V×V):=[(ap,ap),(ap,ap),(ap,ap),(ap,ap),(ap,ap)]
def aU(addr:List UInt8)(dur:Nat)(exp:List UInt8)(tmo:Nat)(dyn:Bool)(node:List V)(caps:List (List UInt8)):List (V×V):=
 fC addr dur exp tmo dyn node++[(bf caps,ap)]
theorem gK{A:Nat→Prop}{addr exp:List UInt8}{dur tmo:Nat}{dyn:Bool}{node:List V}{p:Option Addr}{cp:Nat}{w:World}(hK:aD A w node.length (.slice p node.length cp) (aa A w node))(hd:dur<4294967296)(ht:tmo<4294967296):
  Does TP 28 [.agg #[str addr,.int .u32 (dur:Int),str exp,.int .u32 (tmo:Int),.bool dyn,.slice p node.length cp,str [],.slice none 0 0,.slice none 0 0,.slice none 0 0,.slice none 0 0]] w fun r w'=>∃a b,r= .agg #[a,b]∧aN (fun b=>A b∧b<w.heap.size∨w.heap.size≤b) w' 40 (fC addr dur exp tmo dyn node++iD) [a,b]∧Ext w w':=by
 replace hK:=hK.weakW (B:=fun b=>A b∧b<w.heap.size) (fun b hb h=>⟨h,hb⟩)
 rcases Decidable.em (exp=[])with he0|he0
 ·have ee:tV 20 exp=ap:=if_pos he0
  refine doR Tryz.func28 ?_
  have he:Evo (fun b=>b<w.heap.size) w w:=Evo.refl w
  refine uA 2 rfl ?_
  have hs1:=he.size
  refine bx rfl ?_
  rintro _ w1 ⟨rfl,hb1,e1⟩
  have nx1:=hb1.lt
  have ns1:=e1.size
  replace he:=he.then e1
  have hs2:=he.size
  have hx2b1:=hb1.lt
  refine al ?_
  rintro _ w2 ⟨rfl,hb2,e2⟩
  have nx2:=hb2.lt
  have ns2:=e2.size
  refine uD 3 rfl<|WL.q rfl (r_bld (cs:=[_,_,_,_,_,_]) Fo.h rfl rfl) ?_
  replace he:=he.then e2
  have hs3:=he.size
  replace hb1:=hb1.mono e2
  have hx3b1:=hb1.lt
  have hx3b2:=hb2.lt
  refine al ?_
  rintro _ w3 ⟨rfl,hb3,e3⟩
  have nx3:=hb3.lt
  have ns3:=e3.size
  refine WL.l0 (lsw rfl rfl hb3) ?_
  rintro _ w4 ⟨hb3,e4,hz4⟩
  have ns4:=e4.size
  refine uD 3 rfl<|la rfl hb3<|WL.q rfl (r_bld (cs:=[_,_,_,_,_,_,_,_,_,_,_,_]) Fo.h rfl rfl) ?_
  replace he:=he.then (e3.then e4)
  have hs5:=he.size
  replace hb1:=hb1.mono (e3.then e4)
  have hx5b1:=hb1.lt
  replace hb2:=hb2.mono (e3.then e4)
  have hx5b2:=hb2.lt
  have hx5b3:=hb3.lt
  refine al ?_
  rintro _ w5 ⟨rfl,hb5,e5⟩
  have nx5:=hb5.lt
  have ns5:=e5.size
  refine WL.l0 (lsw rfl rfl hb5) ?_
  rintro _ w6 ⟨hb5,e6,hz6⟩
  have ns6:=e6.size
  refine uD 5 rfl ?_
  replace hb1:=hb1.mono (e5.then e6)
  refine ld rfl hb1 rfl<|WL.q rfl (r_stneqT rfl rfl (he0))<|uD 3 rfl ?_
  replace hK:=(((hK.mono e1).mono e2).mono (e3.then e4)).mono (e5.then e6)
  replace hb2:=hb2.mono (e5.then e6)
  replace hb3:=hb3.mono (e5.then e6)
  refine WC.seq<|WC.regionD (tt [0,1,3,4,5,7,8,9,10,12,13,15,16,18,19,21,22,24,25,26,28,29]++ff [2,6,11,14,17,20,23,27,30,31]++tt [32]++ff [33]) (Evo (fun b=>b≠w1.heap.size) _) mixed (by kernel_rfl) (Evo.drew _) ?_
  have nd1w6:w6.drew.heap.size=w6.heap.size:=rfl
  refine uE 1 rfl<|dl rfl hb1 rfl<|uE 1 rfl<|dl rfl hb1 rfl ?_
  refine WD.q rfl (fun _ hS=>r_cvIntE Fo.h rfl (wu64 (by omega) (by omega))) ?_
  refine WD.q rfl (fun _ hS=>r_loadAgg Fo.h rfl hS hb5.at (hn:=by first|rfl|assumption)) ?_
  refine uE 1 rfl<|dl rfl hb1 rfl ?_
  refine WD.q rfl (fun _ hS=>r_cvIntE Fo.h rfl (wu64 (by omega) (by omega))) ?_
  refine uE 1 rfl<|dl rfl hb1 rfl<|uE 1 rfl<|dl rfl hb1 rfl<|uE 1 rfl<|dl rfl hb1 rfl<|uE 1 rfl<|dl rfl hb1 rfl ?_
  refine WD.q rfl (fun _ hS=>r_bld (cs:=[_,_,_,_,_,_,_,_,_,_,_,_]) Fo.h rfl rfl) ?_
  refine uE 1 rfl<|dl rfl hb1 rfl<|uE 1 rfl<|dl rfl hb1 rfl ?_
  refine cd rfl (dK) ?_
  rintro v7 w7 ⟨cs,rfl,qT0,e7⟩
  have qT:=(qT0 (fun b=>b<0)).two
  obtain⟨x0,x1,x2,x3,x4,x5,y0,y1,y2,y3,y4,y5,rfl,hZ1,hZ2⟩:=qT
  have q1:=cY hZ1.one hZ2.one
  have ns7:=e7.size
  refine⟨((Evo.drew _).then e7),?_⟩
  refine cd rfl (aW) ?_
  rintro v8 w8 ⟨rfl,e8⟩
  have ns8:=e8.size
  refine⟨(((Evo.drew _).then e7).then e8),?_⟩
  refine cd rfl (aW) ?_
  rintro v9 w9 ⟨rfl,e9⟩
  have ns9:=e9.size
  refine⟨((((Evo.drew _).then e7).then e8).then e9),?_⟩
  refine cd rfl (gP) ?_
  rintro v10 w10 ⟨rfl,e10⟩
  have ns10:=e10.size
  refine⟨(((((Evo.drew _).then e7).then e8).then e9).then e10),?_⟩
  refine cd rfl (er (((((hK.mono (Ext.drew _)).mono e7).mono e8).mono e9).mono e10)) ?_
  rintro v11 w11 ⟨cs2,rfl,qM0,e11⟩
  have qM:=qM0.two
  obtain⟨u0,u1,u2,u3,u4,u5,z0,z1,z2,z3,z4,z5,rfl,hZ3,hZ4⟩:=qM
  have q2:=cY hZ3.one hZ4.one
  have ns11:=e11.size
  refine⟨((((((Evo.drew _).then e7).then e8).then e9).then e10).then e11),?_⟩
  refine cd rfl (cZ) ?_
  rintro v12 w12 ⟨rfl,e12⟩
  have ns12:=e12.size
  refine⟨(((((((Evo.drew _).then e7).then e8).then e9).then e10).then e11).then e12),?_⟩
  refine cd rfl (dp) ?_
  rintro v13 w13 ⟨rfl,e13⟩
  have ns13:=e13.size
  refine⟨((((((((Evo.drew _).then e7).then e8).then e9).then e10).then e11).then e12).then e13),?_⟩
  refine cd rfl (bK) ?_
  rintro v14 w14 ⟨rfl,e14⟩
  have ns14:=e14.size
  refine⟨(((((((((Evo.drew _).then e7).then e8).then e9).then e10).then e11).then e12).then e13).then e14),?_⟩
  refine cd rfl (bK) ?_
  rintro v15 w15 ⟨rfl,e15⟩
  have ns15:=e15.size
  refine⟨((((((((((Evo.drew _).then e7).then e8).then e9).then e10).then e11).then e12).then e13).then e14).then e15),?_⟩
  replace he:=((((((((((he.then (e5.then e6)).then (Ext.drew _)).then e7).then e8).then e9).then e10).then e11).then e12).then e13).then e14).then e15
  have hs16:=he.size
  replace hb1:=(((((((((hb1.mono (Ext.drew _)).mono e7).mono e8).mono e9).mono e10).mono e11).mono e12).mono e13).mono e14).mono e15
  have hx16b1:=hb1.lt
  replace hb2:=(((((((((hb2.mono (Ext.drew _)).mono e7).mono e8).mono e9).mono e10).mono e11).mono e12).mono e13).mono e14).mono e15
  have hx16b2:=hb2.lt
  replace hb3:=(((((((((hb3.mono (Ext.drew _)).mono e7).mono e8).mono e9).mono e10).mono e11).mono e12).mono e13).mono e14).mono e15
  have hx16b3:=hb3.lt
  replace hb5:=(((((((((hb5.mono (Ext.drew _)).mono e7).mono e8).mono e9).mono e10).mono e11).mono e12).mono e13).mono e14).mono e15
  have hx16b5:=hb5.lt
  refine WD.l rfl rfl (ll [_,_,_,_,_,_,_,_,_,_,_]) ?_
  rintro _ w16 ⟨rfl,hb16,e16⟩
  have ns16:=e16.size
  refine⟨(((((((((((Evo.drew _).then e7).then e8).then e9).then e10).then e11).then e12).then e13).then e14).then e15).then e16),?_⟩
  refine WD.q rfl (fun _ hS=>r_bld (cs:=[_,_]) Fo.h rfl rfl) ?_
  replace hb2:=hb2.mono e16
  refine WD.l0 rfl (lsw rfl rfl hb2) ?_
  rintro _ w17 ⟨hb2,e17,hz17⟩
  have ns17:=e17.size
  refine⟨((((((((((((Evo.drew _).then e7).then e8).then e9).then e10).then e11).then e12).then e13).then e14).then e15).then e16).then e17),?_⟩
  refine WD.nil<|WC.ret ?_
  replace hZ1:=(((((((((hZ1.mono e8).mono e9).mono e10).mono e11).mono e12).mono e13).mono e14).mono e15).mono e16).mono e17
  replace hZ2:=(((((((((hZ2.mono e8).mono e9).mono e10).mono e11).mono e12).mono e13).mono e14).mono e15).mono e16).mono e17
  replace hZ3:=(((((hZ3.mono e12).mono e13).mono e14).mono e15).mono e16).mono e17
  replace hZ4:=(((((hZ4.mono e12).mono e13).mono e14).mono e15).mono e16).mono e17
  have hR:aa (fun b=>A b∧b<w.heap.size∨w.heap.size≤b) w17 (eF (fC addr dur exp tmo dyn node++iD)) _:=aa.append (aa.mk2 (hZ1.weaken fun b h=>absurd h (Nat.not_lt_zero b)) (hZ2.weaken fun b h=>absurd h (Nat.not_lt_zero b))) (aa.append (aT 4 4 dur 0 [] []) (aa.append (show aa _ _ [tV 20 exp,pv 20 0 aH] (vc 0 0 []++vc 20 0 aH)from by rw[ee];exact aT 0 20 0 0 [] aH) (aa.append (aT 4 4 tmo 0 [] []) (aa.append (aT 1 1 dyn.toNat 0 [] []) (aa.append (aa.mk2 (hZ3.weaken fun b h=> .inl h) (hZ4.weaken fun b h=> .inl h)) (aa.append (aT 0 0 0 0 [] []) (aa.append (aT 0 0 0 0 [] []) (aa.append (aT 0 0 0 0 [] []) (aa.append (aT 0 0 0 0 [] []) (aT 0 0 0 0 [] []))))))))))
  replace hb16:=hb16.mono e17
  replace he:=(he.then e16).then e17
  exact finC rfl hb2 agg_34 ⟨_,_,rfl,aN.lit rfl hb16 (by omega) hR,he.weaken fun k hk _=>hk⟩
 ·have ee:tV 20 exp=pv 20 0 exp:=if_neg he0
  refine doR Tryz.func28 ?_
  have he:Evo (fun b=>b<w.heap.size) w w:=Evo.refl w
  refine uA 2 rfl ?_
  have hs1:=he.size
  refine bx rfl ?_
  rintro _ w1 ⟨rfl,hb1,e1⟩
  have nx1:=hb1.lt
  have ns1:=e1.size
  replace he:=he.then e1
  have hs2:=he.size
  have hx2b1:=hb1.lt
  refine al ?_
  rintro _ w2 ⟨rfl,hb2,e2⟩
  have nx2:=hb2.lt
  have ns2:=e2.size
  refine uD 3 rfl<|WL.q rfl (r_bld (cs:=[_,_,_,_,_,_]) Fo.h rfl rfl) ?_
  replace he:=he.then e2
  have hs3:=he.size
  replace hb1:=hb1.mono e2
  have hx3b1:=hb1.lt
  have hx3b2:=hb2.lt
  refine al ?_
  rintro _ w3 ⟨rfl,hb3,e3⟩
  have nx3:=hb3.lt
  have ns3:=e3.size
  refine WL.l0 (lsw rfl rfl hb3) ?_
  rintro _ w4 ⟨hb3,e4,hz4⟩
  have ns4:=e4.size
  refine uD 3 rfl<|la rfl hb3<|WL.q rfl (r_bld (cs:=[_,_,_,_,_,_,_,_,_,_,_,_]) Fo.h rfl rfl) ?_
  replace he:=he.then (e3.then e4)
  have hs5:=he.size
  replace hb1:=hb1.mono (e3.then e4)
  have hx5b1:=hb1.lt
  replace hb2:=hb2.mono (e3.then e4)
  have hx5b2:=hb2.lt
  have hx5b3:=hb3.lt
  refine al ?_
  rintro _ w5 ⟨rfl,hb5,e5⟩
  have nx5:=hb5.lt
  have ns5:=e5.size
  refine WL.l0 (lsw rfl rfl hb5) ?_
  rintro _ w6 ⟨hb5,e6,hz6⟩
  have ns6:=e6.size
  refine uD 5 rfl ?_
  replace hb1:=hb1.mono (e5.then e6)
  refine ld rfl hb1 rfl<|WL.q rfl (r_stneqF rfl rfl (he0))<|uD 4 rfl<|ld rfl hb1 rfl<|WL.q rfl (r_bld (cs:=[_,_,_,_,_,_]) Fo.h rfl rfl)<|uC 1 rfl ?_
  refine WL.l0 (lsa rfl rfl hb5) ?_
  rintro _ w7 ⟨hb5,e7,hz7⟩
  have ns7:=e7.size
  refine WL.nil ?_
  replace hK:=(((hK.mono e1).mono e2).mono (e3.then e4)).mono ((e5.then e6).then e7)
  replace hb1:=hb1.mono e7
  replace hb2:=hb2.mono ((e5.then e6).then e7)
  replace hb3:=hb3.mono ((e5.then e6).then e7)
  refine WC.seq<|WC.regionD (tt [0,1,3,4,5,7,8,9,10,12,13,15,16,18,19,21,22,24,25,26,28,29]++ff [2,6,11,14,17,20,23,27,30,31]++tt [32]++ff [33]) (Evo (fun b=>b≠w1.heap.size) _) mixed (by kernel_rfl) (Evo.drew _) ?_
  have nd1w7:w7.drew.heap.size=w7.heap.size:=rfl
  refine uE 1 rfl<|dl rfl hb1 rfl<|uE 1 rfl<|dl rfl hb1 rfl ?_
  refine WD.q rfl (fun _ hS=>r_cvIntE Fo.h rfl (wu64 (by omega) (by omega))) ?_
  refine WD.q rfl (fun _ hS=>r_loadAgg Fo.h rfl hS hb5.at (hn:=by first|rfl|assumption)) ?_
  refine uE 1 rfl<|dl rfl hb1 rfl ?_
  refine WD.q rfl (fun _ hS=>r_cvIntE Fo.h rfl (wu64 (by omega) (by omega))) ?_
  refine uE 1 rfl<|dl rfl hb1 rfl<|uE 1 rfl<|dl rfl hb1 rfl<|uE 1 rfl<|dl rfl hb1 rfl<|uE 1 rfl<|dl rfl hb1 rfl ?_
  refine WD.q rfl (fun _ hS=>r_bld (cs:=[_,_,_,_,_,_,_,_,_,_,_,_]) Fo.h rfl rfl) ?_
  refine uE 1 rfl<|dl rfl hb1 rfl<|uE 1 rfl<|dl rfl hb1 rfl ?_
  refine cd rfl (dK) ?_
  rintro v8 w8 ⟨cs,rfl,qT0,e8⟩
  have qT:=(qT0 (fun b=>b<0)).two
  obtain⟨x0,x1,x2,x3,x4,x5,y0,y1,y2,y3,y4,y5,rfl,hZ1,hZ2⟩:=qT
  have q1:=cY hZ1.one hZ2.one
  have ns8:=e8.size
  refine⟨((Evo.drew _).then e8),?_⟩
  refine cd rfl (aW) ?_
  rintro v9 w9 ⟨rfl,e9⟩
  have ns9:=e9.size
  refine⟨(((Evo.drew _).then e8).then e9),?_⟩
  refine cd rfl (aW) ?_
  rintro v10 w10 ⟨rfl,e10⟩
  have ns10:=e10.size
  refine⟨((((Evo.drew _).then e8).then e9).then e10),?_⟩
  refine cd rfl (gP) ?_
  rintro v11 w11 ⟨rfl,e11⟩
  have ns11:=e11.size
  refine⟨(((((Evo.drew _).then e8).then e9).then e10).then e11),?_⟩
  refine cd rfl (er (((((hK.mono (Ext.drew _)).mono e8).mono e9).mono e10).mono e11)) ?_
  rintro v12 w12 ⟨cs2,rfl,qM0,e12⟩
  have qM:=qM0.two
  obtain⟨u0,u1,u2,u3,u4,u5,z0,z1,z2,z3,z4,z5,rfl,hZ3,hZ4⟩:=qM
  have q2:=cY hZ3.one hZ4.one
  have ns12:=e12.size
  refine⟨((((((Evo.drew _).then e8).then e9).then e10).then e11).then e12),?_⟩
  refine cd rfl (cZ) ?_
  rintro v13 w13 ⟨rfl,e13⟩
  have ns13:=e13.size
  refine⟨(((((((Evo.drew _).then e8).then e9).then e10).then e11).then e12).then e13),?_⟩
  refine cd rfl (dp) ?_
  rintro v14 w14 ⟨rfl,e14⟩
  have ns14:=e14.size
  refine⟨((((((((Evo.drew _).then e8).then e9).then e10).then e11).then e12).then e13).then e14),?_⟩
  refine cd rfl (bK) ?_
  rintro v15 w15 ⟨rfl,e15⟩
  have ns15:=e15.size
  refine⟨(((((((((Evo.drew _).then e8).then e9).then e10).then e11).then e12).then e13).then e14).then e15),?_⟩
  refine cd rfl (bK) ?_
  rintro v16 w16 ⟨rfl,e16⟩
  have ns16:=e16.size
  refine⟨((((((((((Evo.drew _).then e8).then e9).then e10).then e11).then e12).then e13).then e14).then e15).then e16),?_⟩
  replace he:=((((((((((he.then ((e5.then e6).then e7)).then (Ext.drew _)).then e8).then e9).then e10).then e11).then e12).then e13).then e14).then e15).then e16
  have hs17:=he.size
  replace hb1:=(((((((((hb1.mono (Ext.drew _)).mono e8).mono e9).mono e10).mono e11).mono e12).mono e13).mono e14).mono e15).mono e16
  have hx17b1:=hb1.lt
  replace hb2:=(((((((((hb2.mono (Ext.drew _)).mono e8).mono e9).mono e10).mono e11).mono e12).mono e13).mono e14).mono e15).mono e16
  have hx17b2:=hb2.lt
  replace hb3:=(((((((((hb3.mono (Ext.drew _)).mono e8).mono e9).mono e10).mono e11).mono e12).mono e13).mono e14).mono e15).mono e16
  have hx17b3:=hb3.lt
  replace hb5:=(((((((((hb5.mono (Ext.drew _)).mono e8).mono e9).mono e10).mono e11).mono e12).mono e13).mono e14).mono e15).mono e16
  have hx17b5:=hb5.lt
  refine WD.l rfl rfl (ll [_,_,_,_,_,_,_,_,_,_,_]) ?_
  rintro _ w17 ⟨rfl,hb17,e17⟩
  have ns17:=e17.size
  refine⟨(((((((((((Evo.drew _).then e8).then e9).then e10).then e11).then e12).then e13).then e14).then e15).then e16).then e17),?_⟩
  refine WD.q rfl (fun _ hS=>r_bld (cs:=[_,_]) Fo.h rfl rfl) ?_
  replace hb2:=hb2.mono e17
  refine WD.l0 rfl (lsw rfl rfl hb2) ?_
  rintro _ w18 ⟨hb2,e18,hz18⟩
  have ns18:=e18.size
  refine⟨((((((((((((Evo.drew _).then e8).then e9).then e10).then e11).then e12).then e13).then e14).then e15).then e16).then e17).then e18),?_⟩
  refine WD.nil<|WC.ret ?_
  replace hZ1:=(((((((((hZ1.mono e9).mono e10).mono e11).mono e12).mono e13).mono e14).mono e15).mono e16).mono e17).mono e18
  replace hZ2:=(((((((((hZ2.mono e9).mono e10).mono e11).mono e12).mono e13).mono e14).mono e15).mono e16).mono e17).mono e18
  replace hZ3:=(((((hZ3.mono e13).mono e14).mono e15).mono e16).mono e17).mono e18
  replace hZ4:=(((((hZ4.mono e13).mono e14).mono e15).mono e16).mono e17).mono e18
  have hR:aa (fun b=>A b∧b<w.heap.size∨w.heap.size≤b) w18 (eF (fC addr dur exp tmo dyn node++iD)) _:=aa.append (aa.mk2 (hZ1.weaken fun b h=>absurd h (Nat.not_lt_zero b)) (hZ2.weaken fun b h=>absurd h (Nat.not_lt_zero b))) (aa.append (aT 4 4 dur 0 [] []) (aa.append (show aa _ _ [tV 20 exp,pv 20 0 aH] (vc 20 0 exp++vc 20 0 aH)from by rw[ee];exact aT 20 20 0 0 exp aH) (aa.append (aT 4 4 tmo 0 [] []) (aa.append (aT 1 1 dyn.toNat 0 [] []) (aa.append (aa.mk2 (hZ3.weaken fun b h=> .inl h) (hZ4.weaken fun b h=> .inl h)) (aa.append (aT 0 0 0 0 [] []) (aa.append (aT 0 0 0 0 [] []) (aa.append (aT 0 0 0 0 [] []) (aa.append (aT 0 0 0 0 [] []) (aT 0 0 0 0 [] []))))))))))
  replace hb17:=hb17.mono e18
  replace he:=(he.then e17).then e18
  exact finC rfl hb2 agg_34 ⟨_,_,rfl,aN.lit rfl hb17 (by omega) hR,he.weaken fun k hk _=>hk⟩
theorem aN.at{A:Nat→Prop}{w:World}{code:Nat}{fs:List (V×V)}{a b:Value}(h:aN A w code fs [a,b])(h0:0<fs.length):∃bb o c xs,a= .int .u64 (code:Int)∧b= .slice (some ⟨bb,o,none⟩) fs.length c∧fs.length≤c∧A bb∧At w bb o xs∧aa A w (eF fs) xs:=by
 obtain⟨p,c,xs,h1,h2,h3,h4⟩:=h
 simp only[List.cons.injEq,and_true]at h1
 obtain⟨rfl,rfl⟩:=h1
 rcases h4 with h4|⟨bb,o,rfl,e2,e3⟩
 ·rw[h4]at h0;exact absurd h0 (by simp)
 ·exact⟨bb,o,c,xs,rfl,rfl,h2,e2,e3,h3⟩
theorem aN.ownF{A:Nat→Prop}{w:World}{code B n:Nat}{v:Value}{fs:List (V×V)}{xs:List Value}(h:Own B 89 12 w v n xs)(hn:fs.length=n)(hX:aa A w (eF fs) xs)(hA:∀b,B≤b→A b):aN A w code fs [.int .u64 (code:Int),v]:=by
 obtain⟨p,c,rfl,h2,h3⟩:=h.form
 subst hn
 refine⟨p,c,xs,rfl,h2,hX,?_⟩
 rcases Nat.eq_zero_or_pos fs.length with h0|h0
 ·exact .inl (List.eq_nil_of_length_eq_zero h0)
 ·obtain⟨b,h4,h5,h6,h7⟩:=h3 h0
  exact .inr ⟨b,0,h4,hA b h5,h7⟩
theorem ph{P:Program}{ρ:Fr}{ty:TypeId}{s x:Operand}{w:World}{B t tx e z bs n m g c:Nat}{zv u:Value}{xs news:List Value}(ht:slZ P t=some (e,z,bs,zv))(hs:ov ρ s=some (.slice (some ⟨g,0,none⟩) n c))(hx:ov ρ x=some u)(hown:Own B e z w (.slice (some ⟨g,0,none⟩) n c) n xs)(hsrc:Src P z tx u m news w)(hB:B≤w.heap.size)(h63:n+m≤maxLen)(hbytes:(n+m) * bs≤140737488355328):
  LoudOp P (.call ⟨.builtin .append, #[s,x], #[t,tx]⟩) ty ρ w (fun v' w'=>Own B e z w' v' (n+m) (xs++news)∧Evo (fun k=>k≠g) w w'):=
 (l_appO ht hs hx hown hsrc hB h63 hbytes).imp fun v' w' ⟨h1,h2,_⟩=>⟨h1,h2.weaken fun k _ hk h=>hk (Option.some.inj (show some g=some k from h)).symm⟩
theorem oS{w:World}:w.drew.heap.size=w.heap.size:=rfl
theorem aQ{A:Nat→Prop}{addr exp:List UInt8}{dur tmo:Nat}{dyn:Bool}{node:List V}{caps:List (List UInt8)}{p pc:Option Addr}{cp cc:Nat}{w:World}(hK:aD A w node.length (.slice p node.length cp) (aa A w node))(hS:dY A w caps (.slice pc caps.length cc))(hd:dur<4294967296)(ht:tmo<4294967296)(hl:caps.length≤2147483647):
  Does TP 8 [.agg #[str addr,.int .u32 (dur:Int),str exp,.int .u32 (tmo:Int),.bool dyn,.slice p node.length cp,.slice pc caps.length cc]] w fun r w'=>∃a b,r= .agg #[a,b]∧aN (fun b=>A b∧b<w.heap.size∨w.heap.size≤b) w' 41 (aU addr dur exp tmo dyn node caps) [a,b]∧Ext w w':=by
 replace hK:=hK.weakW (B:=fun b=>A b∧b<w.heap.size) (fun b hb h=>⟨h,hb⟩)
 replace hS:=hS.lowW (B:=fun b=>A b∧b<w.heap.size) (fun b hb h=>⟨h,hb⟩)
 refine doR Tryz.func8 ?_
 have he:Evo (fun b=>b<w.heap.size) w w:=Evo.refl w
 refine uA 2 rfl ?_
 have hs1:=he.size
 refine bx rfl ?_
 rintro _ w1 ⟨rfl,hb1,e1⟩
 have nx1:=hb1.lt
 have ns1:=e1.size
 replace he:=he.then e1
 have hs2:=he.size
 have hx2b1:=hb1.lt
 refine al ?_
 rintro _ w2 ⟨rfl,hb2,e2⟩
 have nx2:=hb2.lt
 have ns2:=e2.size
 refine uD 4 rfl ?_
 replace hb1:=hb1.mono e2
 refine ld rfl hb1 rfl<|uC 1 rfl<|ld rfl hb1 rfl<|uC 1 rfl<|ld rfl hb1 rfl<|uC 1 rfl<|ld rfl hb1 rfl<|uC 1 rfl<|ld rfl hb1 rfl<|uC 1 rfl<|ld rfl hb1 rfl<|WL.q rfl (r_bld (cs:=[_,_,_,_,_,_,_,_,_,_,_]) Fo.h rfl rfl) ?_
 replace hK:=(hK.mono e1).mono e2
 refine cl rfl (gK hK hd ht) ?_
 rintro v3 w3 ⟨a,b,rfl,hC,e3⟩
 have qC:=hC.lowW (B:=fun b=>(A b∧b<w.heap.size∨w1.heap.size<b)∧b<w3.heap.size) (fun b hb h=>⟨by rcases h with⟨h,_⟩|h;exact .inl h;exact .inr (by omega),hb⟩)
 obtain⟨bb,o,c,xs,rfl,rfl,qc,qAb,hZA,hZX⟩:=qC.at (by simp[fC,iD])
 have nfl:(fC addr dur exp tmo dyn node++iD).length=11:=rfl
 have qxl:xs.length=132:=by rw[hZX.len,eh];rfl
 have ns3:=e3.size
 refine WL.q rfl (r_field1 Fo.h rfl rfl)<|uC 2 rfl ?_
 replace hK:=hK.mono e3
 replace hS:=((hS.mono e1).mono e2).mono e3
 replace hb1:=hb1.mono e3
 replace hb2:=hb2.mono e3
 refine WC.seq<|WC.regionD (tt [1,2,4,5]++ff [0,3,6,7,8]++tt [9]++ff [10]) (Evo (fun b=>b≠w1.heap.size) _) mixed (by kernel_rfl) (Evo.drew _) ?_
 have nd1w3:w3.drew.heap.size=w3.heap.size:=rfl
 refine uE 1 rfl ?_
 refine WD.q rfl (fun _ hS=>r_sliceh (h:=6) Fo.h rfl rfl rfl (by omega)) ?_
 refine uE 1 rfl<|dl rfl hb1 rfl ?_
 replace he:=((he.then e2).then e3).then (Ext.drew _)
 have hs4:=he.size
 replace hb1:=hb1.mono (Ext.drew _)
 have hx4b1:=hb1.lt
 replace hb2:=hb2.mono (Ext.drew _)
 have hx4b2:=hb2.lt
 refine WD.l rfl rfl (l_lit0 Fo.h) ?_
 rintro _ w4 ⟨rfl,ho4,e4⟩
 have ns4:=e4.size
 refine⟨((Evo.drew _).then e4),?_⟩
 refine WD.l rfl rfl (l_app Fo.h rfl rfl ho4 (Src.at Fb.h (((hZA.mono (Ext.drew _)).mono e4).takeL 72) (by simp;omega) (aa.take 12 ((hZX.mono (Ext.drew _)).mono e4)).oneAll) (by simp only[oS];omega) (by simp only[maxLen];omega) (by omega)) ?_
 rintro v5 w5 ⟨hO,e5⟩
 obtain⟨q5,c5,hq5,_,hf5⟩:=hO.form
 subst hq5
 obtain⟨g5,rfl,nga5,ngb5,_⟩:=hf5 (by omega)
 have ns5:=e5.size
 refine⟨(((Evo.drew _).then e4).then e5),?_⟩
 refine cd rfl (jm (((hS.mono (Ext.drew _)).mono e4).mono e5) hl) ?_
 rintro v6 w6 ⟨cs2,rfl,qM0,e6⟩
 have qM:=qM0.two
 obtain⟨u0,u1,u2,u3,u4,u5,z0,z1,z2,z3,z4,z5,rfl,hZ3,hZ4⟩:=qM
 have q2:=cY hZ3.one hZ4.one
 have ns6:=e6.size
 refine⟨((((Evo.drew _).then e4).then e5).then e6),?_⟩
 replace he:=((he.then e4).then e5).then e6
 have hs7:=he.size
 replace hb1:=((hb1.mono e4).mono e5).mono e6
 have hx7b1:=hb1.lt
 replace hb2:=((hb2.mono e4).mono e5).mono e6
 have hx7b2:=hb2.lt
 refine WD.l rfl rfl (ll [_]) ?_
 rintro _ w7 ⟨rfl,hb7,e7⟩
 have ns7:=e7.size
 refine⟨(((((Evo.drew _).then e4).then e5).then e6).then e7),?_⟩
 refine WD.l rfl rfl (ph Fo.h rfl rfl ((hO.mono e6).mono e7) (Src.at Fb.h hb7.at rfl q2) (by omega) (by simp only[maxLen];omega) (by omega)) ?_
 rintro v8 w8 ⟨hO,e8⟩
 obtain⟨q8,c8,hq8,_,_⟩:=hO.form
 subst hq8
 have ns8:=e8.size
 refine⟨((((((Evo.drew _).then e4).then e5).then e6).then e7).then e8),?_⟩
 refine WD.q rfl (fun _ hS=>r_bld (cs:=[_,_]) Fo.h rfl rfl) ?_
 replace hb2:=(hb2.mono e7).mono e8
 refine WD.l0 rfl (lsw rfl rfl hb2) ?_
 rintro _ w9 ⟨hb2,e9,hz9⟩
 have ns9:=e9.size
 refine⟨(((((((Evo.drew _).then e4).then e5).then e6).then e7).then e8).then e9),?_⟩
 refine WD.nil<|WC.ret ?_
 replace hZX:=((((((hZX.mono (Ext.drew _)).mono e4).mono e5).mono e6).mono e7).mono e8).mono e9
 replace hZ3:=((hZ3.mono e7).mono e8).mono e9
 replace hZ4:=((hZ4.mono e7).mono e8).mono e9
 have hR:aa (fun b=>A b∧b<w.heap.size∨w.heap.size≤b) w9 (eF (fC addr dur exp tmo dyn node)++[bf caps,ap]) (([]++xs.take 72)++([u0,u1,u2,u3,u4,u5]++[z0,z1,z2,z3,z4,z5])):=aa.append ((aa.take 12 hZX).weaken fun b h=>h.1.imp id fun h=>by omega) (aa.mk2 (hZ3.weaken fun b h=> .inr (by omega)) (hZ4.weaken fun b h=> .inr (by omega)))
 replace hO:=hO.mono e9
 replace he:=((he.then e7).then e8).then e9
 exact finC rfl hb2 agg_34 ⟨_,_,rfl,aN.ownF hO rfl (show aa _ _ (eF (aU addr dur exp tmo dyn node caps)) _ from hR) (fun b hb=> .inr (by omega)),he.weaken fun k hk _=>hk⟩
end Go.Proofs.LL
